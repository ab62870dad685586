import PyProof.Rows.All
import Wide.All
import OpenK.AllK
import Wide.FinOn
import Lean
import PySem.Challenge.RW_lo0013_01
set_option Elab.async false
section
theorem Mine.reset_W1 : True := by
  w_top off
  exact trivial
open PySem PySem.W PySem.NumText PySem.Calls PyProof.Rows
set_option maxRecDepth 100000
set_option linter.unusedVariables false
namespace Mine
/-! what a tree does when the claim's caller stands on the stack -/
noncomputable def Cal (Γ : Ctx) : Prop := Γ.code.isCaller = true ∨ (Γ.below.any fun q => q.1.isCaller) = true
theorem Cal.enter {Γ : Ctx} (h : Cal Γ) (c : Code) (hd : Option Value) (p : Pos) : ((Γ.enter c hd p).below.any fun q => q.1.isCaller) = true := by
  show (((Γ.code, p) :: Γ.below).any fun q => q.1.isCaller) = true
  rw [List.any_cons, Bool.or_eq_true]
  exact h
noncomputable def wpC {α : Type} (M : Model) (A : Around) (t : Sem α) (Q : α → Shared → Prop) (E : Value → Shared → Prop) (s : Shared) : Prop :=
  ∀ Γ p, Γ.In A → Cal Γ → Sem.wp M Γ t (fun a _ s' => Q a s') (fun e _ s' => E e s') p s
noncomputable def codeC (M : Model) (A : Around) (c : Code) (R : Result → Shared → Prop) (s : Shared) : Prop :=
  ∀ Γ p, Γ.code = c → Γ.Below A → (Γ.below.any fun q => q.1.isCaller) = true → wpCode M Γ R p s
section
variable {α β : Type} {M : Model} {A : Around} {E : Value → Shared → Prop} {s : Shared}
theorem wpC_any {t : Sem α} {Q : α → Shared → Prop} (h : wpAny M A t Q E s) : wpC M A t Q E s := fun Γ p hΓ _ => h Γ p hΓ
theorem wpC_pure {a : α} {Q : α → Shared → Prop} (h : Q a s) : wpC M A (pure a) Q E s := wpC_any (wpAny_pure h)
theorem wpC_mono {t : Sem α} {Q Q' : α → Shared → Prop} {E' : Value → Shared → Prop} (h : wpC M A t Q E s) (hQ : ∀ a s, Q a s → Q' a s) (hE : ∀ e s, E e s → E' e s) : wpC M A t Q' E' s :=
  fun Γ p hΓ hC => Sem.wp_mono M Γ t (fun a _ s => hQ a s) (fun e _ s => hE e s) p s (h Γ p hΓ hC)
theorem wpC_bind {m : Sem α} {f : α → Sem β} {Q : β → Shared → Prop} (h : wpC M A m (fun a s' => wpC M A (f a) Q E s') E s) : wpC M A (m >>= f) Q E s := fun Γ p hΓ hC => by
  rw [Sem.wp_bind']
  exact Sem.wp_mono M Γ m (fun a p' s' h' => h' Γ p' hΓ hC) (fun _ _ _ h' => h') p s (h Γ p hΓ hC)
theorem wpC_bindA {m : Sem α} {f : α → Sem β} {Q : β → Shared → Prop} (h : wpAny M A m (fun a s' => wpC M A (f a) Q E s') E s) : wpC M A (m >>= f) Q E s := wpC_bind (wpC_any h)
theorem wpC_holding {vs : List Value} {m : Sem α} {Q : α → Shared → Prop} (h : wpC M A m Q E s) : wpC M A (holding vs m) Q E s := fun Γ p hΓ hC => by rw [Sem.wp_holding]; exact h Γ p hΓ hC
theorem wpC_keep {vs : List Value} {m : Sem α} {Q : α → Shared → Prop} (h : wpC M A m Q E s) : wpC M A (m.keep vs) Q E s := fun Γ p hΓ hC => by rw [Sem.wp_keep]; exact h Γ p hΓ hC
theorem wpC_standAt {pos : Pos} {f : Sem β} {Q : β → Shared → Prop} (h : wpC M A f Q E s) : wpC M A (standAt pos >>= fun _ => f) Q E s := wpC_bindA (wpAny_standAt h)
theorem wpC_onRaise {m : Sem α} {k : Value → Sem Unit} {Q : α → Shared → Prop} (h : wpC M A m Q (fun e s' => wpAny M A (k e) (fun _ s'' => E e s'') E s') s) : wpC M A (m.onRaise k) Q E s := fun Γ p hΓ hC => by
  rw [Sem.wp_onRaise]
  exact Sem.wp_mono M Γ m (fun _ _ _ h' => h') (fun e p' s' h' => h' Γ p' hΓ) p s (h Γ p hΓ hC)
theorem wpC_attempt {m : Sem α} {Q : Except Value α → Shared → Prop} (h : wpC M A m (fun a => Q (.ok a)) (fun e => Q (.error e)) s) : wpC M A m.attempt Q E s := fun Γ p hΓ hC => by rw [Sem.wp_attempt]; exact h Γ p hΓ hC
theorem wpC_runValue {c : Code} {Q : Value → Shared → Prop} (hc : codeC M A c (fun r s' => match r with | .ok (.ret v) => Q v s' | .ok _ => False | .error e => E e s') s) : wpC M A (runValue c) Q E s :=
  fun Γ p hΓ hC => by rw [Sem.wp_runValue]; exact hc _ p rfl (hΓ.enter c none p (by intro x; cases x)) (hC.enter c none p)
theorem wpC_call {f : Value} {pos : List Value} {kw : List (Str × Value)} {Q : Value → Shared → Prop} (hc : codeC M A (.call f ⟨pos, kw⟩) (fun r s' => match r with | .ok (.ret v) => Q v s' | .ok _ => False | .error e => E e s') s) :
    wpC M A (call f pos kw) Q E s := wpC_runValue hc
theorem codeC_of_tree {c : Code} {R : Result → Shared → Prop}
    (h : wpC M (A.under c) (M.den c) (fun fin s' => match fin with | .done f => R (.ok f) s' | .again c' => c'.quiet = true ∧ codeC M A c' R s') (fun e s' => R (.error e) s') s) : codeC M A c R s := fun Γ p hc hΓ hC => by
  rw [wpCode_iff_wp, hc]
  refine Sem.wp_mono M Γ _ (fun fin p' s' h' => ?_) (fun _ _ _ h' => h') p s (h Γ p (hc ▸ hΓ.in) (.inr hC))
  cases fin with
  | done f => exact h'
  | again c' => exact ⟨h'.1, h'.2 (Γ.goto c') p' rfl (hΓ.goto c') hC⟩
theorem codeC_any {c : Code} {R : Result → Shared → Prop} (h : codeAny M A c R s) : codeC M A c R s := fun Γ p hc hΓ _ => h Γ p hc hΓ
end
section
variable {prog : Program} {w : World} {A : Around} {E : Value → Shared → Prop} {s : Shared} {R : Result → Shared → Prop}
theorem codeC_func {body : List Stmt} {env : Env}
    (h : wpC (model prog w) (A.deeper env) (execs body env) (fun f s' => R (.ok (.ret (match f with | .ret v => v | _ => .none))) s')
      (fun e s' => wpAny (model prog w) (A.deeper env) (leaving env e) (fun _ s'' => R (.error e) s'') (fun e' s'' => R (.error e') s'') s') s) :
    codeC (model prog w) A (.func body env) R s := by
  refine codeC_of_tree ?_
  show wpC _ (A.deeper env) (do point; match ← (execs body env).onRaise (leaving env) with | .ret v => ret v | _ => ret .none) _ _ s
  refine wpC_bindA (wpAny_point (wpC_bind (wpC_onRaise (wpC_mono h (fun f s' h' => ?_) fun _ _ h' => h'))))
  cases f <;> exact wpC_pure h'
theorem codeC_call_function {a : Addr} {args : Args} {o : Obj} {fd : FuncData} {body : List Stmt} (hroom : A.depth < recursionLimit) (ho : s.heap.get? a = some o)
    (hd' : o.data = .func fd) (hco : fd.scope.isCoroutine = false) (hgen : fd.scope.isGenerator = false) (hbody : fd.body = .stmts body) (hcd : s.heap.CodeRec fd.code fd.qualname)
    (h : wpAny (model prog w) A.in1 (bindArgs fd args) (fun binds s₁ =>
      wpAny (model prog w) A.in1 (newFunctionEnv fd.scope fd.globals fd.closure binds (fd.qualname ++ ".<locals>.") (some a) fd.code none fd.builtins)
        (fun env s₂ => s₂.heap.NoLimit ∧ codeC (model prog w) A (.func body env) R s₂) (fun e s' => R (.error e) s') s₁) (fun e s' => R (.error e) s') s) :
    codeC (model prog w) A (.call (.ref a) args) R s := by
  refine codeC_of_tree (wpC_any ?_)
  show wpAny _ A.in1 (callAny (.ref a) args) _ _ s
  simp only [callAny]
  refine wpAny_bind (wpAny_load ho ?_)
  obtain ⟨c, oc, vs, tq, hc, hoc, hdc, hq⟩ := hcd
  simp only [hd', callFunction, hco, hgen, hbody, hc]
  rw [hc] at h
  refine wpAny_bind (m := field (.ref c) 1) (wpAny_field hoc hdc hq (wpAny_bind (wpAny_pure ?_)))
  exact wpAny_bind (wpAny_mono h (fun binds s₁ h₁ => wpAny_bind (wpAny_mono h₁ (fun env s₂ h₂ => wpAny_bind (wpAny_enterFrame h₂.1 hroom
    (wpAny_pure (And.intro rfl h₂.2)))) fun _ _ h' => h')) fun _ _ h' => h')
end
section
variable {M : Model} {A : Around} {E : Value → Shared → Prop} {s : Shared} {env : Env}
theorem wpC_execs_cons {st : Stmt} {rest : List Stmt} {Q : Flow → Shared → Prop} (h : wpC M A (exec st env) (fun f s' => match f with | .next => wpC M A (execs rest env) Q E s' | f => Q f s') E s) :
    wpC M A (execs (st :: rest) env) Q E s := fun Γ p hΓ hC => by
  rw [execs_cons, Sem.wp_bind']
  refine Sem.wp_mono M Γ _ (fun f p' s' h' => ?_) (fun _ _ _ h' => h') _ _ (h Γ p hΓ hC)
  cases f <;> first | exact h' Γ p' hΓ hC | exact h'
theorem wpC_execs_consA {st : Stmt} {rest : List Stmt} {Q : Flow → Shared → Prop} (h : wpAny M A (exec st env) (fun f s' => match f with | .next => wpC M A (execs rest env) Q E s' | f => Q f s') E s) :
    wpC M A (execs (st :: rest) env) Q E s := wpC_execs_cons (wpC_any h)
theorem wpC_If {test : Expr} {body orelse : List Stmt} {pos : Pos} {Q : Flow → Shared → Prop}
    (h : wpC M A (isTrue test env (eval test env)) (fun b s₂ => if b then wpC M A (execs body env) Q E s₂ else wpC M A (execs orelse env) Q E s₂) E s) :
    wpC M A (exec (.If test body orelse pos) env) Q E s := fun Γ p hΓ hC => by
  simp only [exec_If, Sem.wp_bind', Sem.wp_cmd_standAt]
  refine Sem.wp_mono M Γ _ (fun b p₂ s₂ h₂ => ?_) (fun _ _ _ h' => h') _ _ (h Γ _ hΓ hC)
  cases b <;> exact h₂ Γ p₂ hΓ hC
theorem wpC_Return {e : Expr} {pos : Pos} {Q : Flow → Shared → Prop} (h : wpC M A (eval e env) (fun v => Q (.ret v)) E s) : wpC M A (exec (.Return (some e) pos) env) Q E s := fun Γ p hΓ hC => by
  simp only [exec_Return_some, Sem.wp_bind', Sem.wp_cmd_standAt, Sem.wp_pure']; exact h Γ _ hΓ hC
theorem wpC_BinOp {l : Expr} {op : Operator} {r : Expr} {pos : Pos} {Q : Value → Shared → Prop}
    (h : wpC M A (eval l env) (fun a s₁ => wpC M A (eval r env) (fun b s₂ => wpAny M A (binaryOp op a b) Q E s₂) E s₁) E s) : wpC M A (eval (.BinOp l op r pos) env) Q E s := fun Γ p hΓ hC => by
  simp only [eval_BinOp, Sem.wp_bind', Sem.wp_holding, Sem.wp_cmd_standAt, Sem.wp_operate]
  exact Sem.wp_mono M Γ _ (fun a p₁ s₁ h₁ => Sem.wp_mono M Γ _ (fun b _ s₂ h₂ => h₂ Γ _ hΓ) (fun _ _ _ h' => h') _ _ (h₁ Γ p₁ hΓ hC)) (fun _ _ _ h' => h') _ _ (h Γ p hΓ hC)
/-- a statement that is an expression whose tree never comes back -/
theorem wpC_Expr {e : Expr} {pos : Pos} {Q : Flow → Shared → Prop} (h : wpC M A (eval e env) (fun _ _ => False) E s) (hi : interactive env = false := by rfl) (hs : swapsWith e none pos.line env = pure false := by rfl) :
    wpC M A (exec (.Expr e pos) env) Q E s := by
  rw [exec_Expr env e pos hi hs]
  exact wpC_standAt (wpC_bind (wpC_mono h (fun _ _ h' => h'.elim) fun _ _ x => x))
theorem wpC_isTrue_Not {x : Expr} {pos : Pos} {whole : Sem Value} {Q : Bool → Shared → Prop} (h : wpC M A (isTrue x env (eval x env)) (fun b s₁ => Q (!b) s₁) E s) : wpC M A (isTrue (.UnaryOp .Not x pos) env whole) Q E s := by
  rw [arm_isTrue_UnaryOp]
  exact wpC_bind (wpC_mono h (fun b s₁ h₁ => wpC_pure h₁) fun _ _ x => x)
theorem wpC_Call {func : Expr} {args : List Expr} {pos : Pos} {Q : Value → Shared → Prop}
    (h : wpAny M A (eval func env) (fun f s₁ => wpC M A (callWith pos f [] (backTo pos (starEach args env)) []) Q E s₁) E s)
    (he : eval (.Call func args [] pos) env = (do callWith pos (← eval func env) [] (backTo pos (starEach args env)) (backToKw pos (keywordEach [] env))) := by rfl) :
    wpC M A (eval (.Call func args [] pos) env) Q E s := by
  rw [he]; exact wpC_bindA h
theorem wpC_callWith {P : Heap → Prop} {f : Value} {first : List Value} {pos : Pos} {Q : Value → Shared → Prop} {args : List (Bool × Sem Value)} {keywords : List (Option Str × Sem Value)} (hplain : (args.any (·.1) || keywords.any (·.1.isNone)) = false)
    (hk : ∀ h, P h → ∃ k, (k = Keeper.frame ∨ k = Keeper.machine ∨ k = Keeper.boundFrame) ∧ Looks M h (keeperOf f) k)
    (h : wpAny M A (evalArgs f true args keywords) (fun a s₁ => P s₁.heap ∧ wpC M A (call f (first ++ a.pos) a.kw) Q E s₁) E s) : wpC M A (callWith pos f first args keywords) Q E s := by
  unfold callWith
  refine wpC_bind (wpC_holding (wpC_any (wpAny_mono h (fun a s₁ h₁ => wpC_standAt ?_) fun _ _ x => x)))
  obtain ⟨k, hk', L⟩ := hk _ h₁.1
  simp only [hplain]
  refine wpC_bindA (L.here ?_)
  have tail : ∀ {t : Sem Value}, wpC M A t Q E s₁ → wpC M A (t >>= fun r => holding [r] point >>= fun _ => pure r) Q E s₁ :=
    fun ht => wpC_bind (wpC_mono ht (fun r s₂ hr => wpC_any (wpAny_bind (wpAny_holding (wpAny_point (wpAny_pure hr))))) fun _ _ x => x)
  have marked (mk : Value) : wpC M A (callMarked mk f (first ++ a.pos) a.kw) Q E s₁ := by unfold callMarked; exact wpC_keep h₁.2
  rcases hk' with rfl | rfl | rfl <;> dsimp only <;> first | exact tail h₁.2 | (split <;> first | exact tail h₁.2 | exact tail (marked _))
end
section
variable {prog : Program} {w : World} {A : Around} {E : Value → Shared → Prop} {s : Shared} {env : Env}
theorem wpC_Try_except {body orelse : List Stmt} {h₀ : ExceptHandler} {hs : List ExceptHandler} {pos : Pos} {Q : Flow → Shared → Prop}
    (h : wpC (model prog w) A (execs body env) (fun f s₁ => match f with | .next => wpAny (model prog w) A (execs orelse env) Q E s₁ | f => Q f s₁)
      (fun e s₁ => wpAny (model prog w) A (noteFrame e env) (fun _ s₂ => wpAny (model prog w) A (setFlight e none) (fun _ s₃ => wpAny (model prog w) A (handleBy e env (h₀ :: hs)) Q E s₃) E s₂) E s₁) s) :
    wpC (model prog w) A (exec (.Try body (h₀ :: hs) orelse [] pos) env) Q E s := by
  rw [arm_exec_Try]
  refine wpC_standAt ?_
  unfold tryStmt
  simp only [List.isEmpty_nil, if_true, List.isEmpty_cons, Bool.false_and, Bool.false_eq_true, if_false]
  refine wpC_bind (wpC_attempt (wpC_mono h (fun f s₁ h₁ => ?_) fun e s₁ h₁ => ?_))
  · cases f <;> first | exact wpC_any h₁ | exact wpC_pure h₁
  · exact wpC_any (wpAny_bind (wpAny_mono h₁ (fun _ _ h₂ => wpAny_bind h₂) fun _ _ x => x))
end
end Mine
end
section
theorem Mine.reset_H1 : True := by
  w_top off
  exact trivial
open PySem PySem.W PySem.Calls PyProof.Rows
set_option maxRecDepth 100000
set_option linter.unusedVariables false
namespace Mine
/-! the head, for a walk that may use that the claim's caller stands below -/
noncomputable def hasCaller (st : List (Code × Pos)) : Bool := st.any fun q => q.1.isCaller
noncomputable def guarded {α : Type} (t u : Sem α) : Sem α := stack >>= fun st => if hasCaller st then t else u
theorem wp_guarded {α : Type} {M : Model} {Γ : Ctx} {t u : Sem α} {Q : α → Pos → Shared → Prop} {E : Value → Pos → Shared → Prop} {p : Pos} {s : Shared} :
    Sem.wp M Γ (guarded t u) Q E p s ↔ Sem.wp M Γ (if hasCaller ((Γ.code, p) :: Γ.below) then t else u) Q E p s := by
  unfold guarded
  rw [Sem.wp_bind']
  exact Iff.rfl
theorem peel {prog : Program} {w : World} {n : Nat} {s s' : Shared} {t u : Sem Fin} {p : Pos} {o : Outcome} (hz : s.asleep)
    (h : schedN (denote table) prog w n (.single s ⟨guarded t u, .builtin "claim.caller" {}, p, []⟩) = .halted o s') :
    ∃ n', schedN (denote table) prog w n' (.single s ⟨t, .builtin "claim.caller" {}, p, []⟩) = .halted o s' := by
  cases n with
  | zero => cases h
  | succ n =>
    refine ⟨n, ?_⟩
    have hs : step (denote table) prog w s ⟨guarded t u, .builtin "claim.caller" {}, p, []⟩ = .go s ⟨t, .builtin "claim.caller" {}, p, []⟩ := rfl
    have e : sstep (denote table) prog w (.single s ⟨guarded t u, .builtin "claim.caller" {}, p, []⟩) = .go (.single s ⟨t, .builtin "claim.caller" {}, p, []⟩) := by
      rcases sstep_single (denote table) prog w s ⟨guarded t u, .builtin "claim.caller" {}, p, []⟩ rfl hz with e | e
      · rw [e, hs]; rfl
      · rw [hs] at e; cases e
    simp only [schedN, e] at h
    exact h
theorem call_guarded {c : ClaimW} {tree other : List Value → Sem Fin} {w : World} {mk : Addr → Prop} {wr : Prop} {kp : Heap → Prop} {s s₀ s₁ : Shared}
    (hs : AfterRun (opening c.prog) w s) (a1 : fenceModules? c.prog s = some s₀) (a3 : TopRan c.prog w s₀ s₁)
    (H : c.CallFrom (fun vs => ⟨guarded (tree vs) (other vs), .builtin "claim.caller" {}, default, []⟩) w mk wr kp s₁) :
    c.CallFrom (fun vs => ⟨tree vs, .builtin "claim.caller" {}, default, []⟩) w mk wr kp s₁ := fun args b1 b2 ord b3 => by
  obtain ⟨vs, s₂, l, n, o, s', r, rest⟩ := H args b1 b2 ord b3
  have z : s₂.asleep := Shared.asleep_of_life ((layAllW_rest _ _ _ l).2.2.2.trans (a3.2.1.trans (fence_lifeW a1))) (AfterImport.life hs)
  obtain ⟨n', hn⟩ := peel z r
  exact ⟨vs, s₂, l, n', o, s', hn, rest⟩
theorem from_guarded {c : ClaimW} {tree other : List Value → Sem Fin} {defs kps : List PySem.Str} {writes : Bool}
    (H : c.HoldsOpenBy (fun vs => ⟨guarded (tree vs) (other vs), .builtin "claim.caller" {}, default, []⟩) defs kps writes) :
    c.HoldsOpenBy (fun vs => ⟨tree vs, .builtin "claim.caller" {}, default, []⟩) defs kps writes :=
  ⟨H.1, H.2.1, fun w => ⟨(H.2.2 w).1, fun s hs => ((H.2.2 w).2 s hs).imp fun s₀ h => ⟨h.1, h.2.1, h.2.2.imp fun s₁ k =>
    ⟨k.1, k.2.1, k.2.2.1, k.2.2.2.1, call_guarded hs h.1 k.1 k.2.2.2.2⟩⟩⟩⟩
abbrev WalkC (q : Program) (loose : List PySem.Str) (XP : (PySem.Str → Option Value) → Heap → Prop) (YP : World → Heap → Prop) (r : RowW) (d : DefRec) (kwd : List (PySem.Str × Expr)) : Prop :=
  ∀ (w : World) (s₀ s₁ : Shared) (mg mb : PySem.Str → Option Value), Ground q loose r.records XP w s₀ mg mb s₁.heap → YP w s₁.heap → ∀ (a : Addr) (o : Obj) (pm cd doc dV kV : Value), s₁.heap.get? a = some o →
    o.data = .func { docDef d.name d.params d.body d.scope pm cd doc with defaults := dV, kwdefaults := kV } → s₁.heap.CodeRec cd d.name → Dflts mg s₁.heap d.params kwd dV kV → mg d.name = some (.ref a) → s₁.gens = #[] →
    ∀ (args : List WData) (vals : List Value) (as : List Addr), r.claim.pre args = true → WData.layableAll args = true → ReadsAllW r.records (classAt s₀.heap) s₁.heap vals args as → WellAll w.params s₁.heap vals args → (∀ a ∈ as, (a == sysModules) = false) →
      GoodWG r.claim (classAt s₀.heap) (ExcName.means s₀.heap) args s₁ (.ok (.ret (.bool true))) s₁ ∧
      wpC (model r.prog w) callerA (PySem.call (.ref a) vals) (fun v s' => GoodWG r.claim (classAt s₀.heap) (ExcName.means s₀.heap) args s₁ (.ok (.ret v)) s')
        (fun e s' => GoodWG r.claim (classAt s₀.heap) (ExcName.means s₀.heap) args s₁ (.error e) s') s₁
end Mine
theorem Mine.Head.PySem.W.holds_open {r : OpenRow} {q : Program} {loose : List PySem.Str} {Xt : Shared → Bool} {XP : (PySem.Str → Option Value) → Heap → Prop} {α : Type} {Yf : Shared → α} {Ya : World → α} {YP : World → Heap → Prop} {d : DefRec} {kwd : List (PySem.Str × Expr)} {N : Nat}
    (left : LeftO r.prog q loose Xt Yf Ya N) (hY : ∀ w s, Yf s = Ya w → YP w s.heap) (hYk : ∀ w h h', YP w h → (∀ b o, h.get? b = some o → h'.get? b = some o) → YP w h')
    (hX : ∀ s, Xt s = true → XP (s.heap.nsMap mainGlobals) s.heap) (hXk : ∀ mg h h', XP mg h → (∀ b o, h.get? b = some o → h'.get? b = some o) → XP mg h')
    (hdef : defOf q r.name = some (d, kwd)) (hp : r.prog.theDef r.name = some (d.params, d.body, d.scope)) (hk : kwWritten? d.params.kwonlyargs d.params.kw_defaults = some kwd) (hRf : ∀ s, Xt s = true → RecFacts r.records s.heap) (hwr : (!r.writes || r.records.isEmpty) = true)
    (k1 : r.wellSaid = true) (ok : (chainsOk q && opensWell r.prog && (frees r.toRowW && r.within.isEmpty)) = true) (hb : r.prog.bare) (hw : r.toRowW.promised)
    (walk : WalkC q loose XP YP r.toRowW d kwd) : r.Holds := by
  refine ⟨k1, hw, from_guarded (tree := fun vs => do match ← nsGet mainNs r.name with
      | some f => do ret (← PySem.call f vs)
      | none => unsupported "claim.caller:no-such-global") (other := fun _ => ret (.bool true)) (open_anyG (r := r.toRowW) (run := fun f vs => guarded (PySem.call f vs) (pure (.bool true)))
      left hY hYk hX hXk hRf hwr ok hb hw ?_ ?_ ?_)⟩
  · intro vs w s mg f Q E hg hf h Γ p hΓ
    have h1 := h Γ p hΓ
    rw [wp_guarded] at h1 ⊢
    cases hc : hasCaller ((Γ.code, p) :: Γ.below) with
    | false =>
      rw [hc] at h1
      simp only [Bool.false_eq_true, if_false] at h1 ⊢
      exact h1
    | true =>
      rw [hc] at h1
      simp only [if_true] at h1 ⊢
      rw [Sem.wp_bind']
      refine Sem.wp_mono _ Γ _ (fun v p' s' hv => ?_) (fun _ _ _ x => x) p s (wpAny_nsGet (M := model r.prog w) (A := callerA) (E := E) (Q := fun v s' => v = mg r.name ∧ s' = s) hg ⟨rfl, rfl⟩ Γ p hΓ)
      obtain ⟨rfl, rfl⟩ := hv
      rw [hf]
      dsimp only
      have h2 := h Γ p' hΓ
      rw [wp_guarded, if_pos (show hasCaller ((Γ.code, p') :: Γ.below) = true from hc)] at h2
      rw [Sem.wp_bind']
      exact h2
  · intro w s hg G n hn
    obtain rfl : n = r.name := by split at hn <;> simp_all
    exact pinned_of_view hg G hdef hp hk
  · intro w s₀ s₁ mg mb G Y args vs as hpre hlay L low
    obtain ⟨a, o, pm, cd, doc, dV, kV, h1, h2, h3, h4, h5⟩ := G.fn hdef
    refine ⟨.ref a, h1, fun Γ p hΓ => ?_⟩
    obtain ⟨hT, hwalk⟩ := walk w s₀ s₁ mg mb G Y a o pm cd doc dV kV h2 h3 h4 h5 (defOf_name hdef ▸ h1) L.gens args vs as hpre hlay L.reads L.well (L.low low)
    rw [wp_guarded]
    cases hc : hasCaller ((Γ.code, p) :: Γ.below) with
    | false => exact hT
    | true =>
      have hC : Cal Γ := by
        unfold hasCaller at hc
        rw [List.any_cons, Bool.or_eq_true] at hc
        exact hc
      exact hwalk Γ p hΓ hC
end
section
theorem Mine.reset_A0 : True := by
  w_top off
  exact trivial
open PySem PySem.W PyProof.Rows
namespace Mine.Head
set_option maxRecDepth 100000 in
set_option maxHeartbeats 8000000 in
open_top hd for PySem.Challenge.rw_lo0013_01
end Mine.Head
end
section
theorem Mine.reset_M1 : True := by
  w_top off
  exact trivial
open PySem
namespace Mine
/-! plain law: numbers packed four places a figure -/

noncomputable def bcdF (f : Nat) : Nat → Nat := Nat.rec (fun _ => 0) (fun _ ih n => n % 10 + 16 * ih (n / 10)) f
noncomputable def bcd (n : Nat) : Nat := bcdF n n
theorem bcdF_step (f n : Nat) : bcdF (f + 1) n = n % 10 + 16 * bcdF f (n / 10) := rfl
theorem bcdF_zero : ∀ f, bcdF f 0 = 0
  | 0 => rfl
  | f + 1 => by rw [bcdF_step, bcdF_zero f]
theorem bcdF_more : ∀ (f g n : Nat), n ≤ f → n ≤ g → bcdF f n = bcdF g n
  | 0, g, n, h, _ => by rw [Nat.le_zero.mp h, bcdF_zero, bcdF_zero]
  | f + 1, 0, n, _, h => by rw [Nat.le_zero.mp h, bcdF_zero, bcdF_zero]
  | f + 1, g + 1, n, h, h' => by
    rw [bcdF_step, bcdF_step]
    have e : bcdF f (n / 10) = bcdF g (n / 10) := by
      cases n with
      | zero => rw [Nat.zero_div, bcdF_zero, bcdF_zero]
      | succ n =>
        have q : (n + 1) / 10 < n + 1 := Nat.div_lt_self (Nat.succ_pos n) (by decide)
        exact bcdF_more f g _ (Nat.le_of_lt_succ (Nat.lt_of_lt_of_le q h)) (Nat.le_of_lt_succ (Nat.lt_of_lt_of_le q h'))
    rw [e]
theorem bcd_zero : bcd 0 = 0 := rfl
theorem bcd_step (n : Nat) : bcd n = n % 10 + 16 * bcd (n / 10) := by
  rw [show bcd n = bcdF (n + 1) n from bcdF_more n (n + 1) n (Nat.le_refl n) (Nat.le_succ n), bcdF_step, bcdF_more n (n / 10) (n / 10) (Nat.div_le_self n 10) (Nat.le_refl _)]
  rfl

noncomputable def rep (d : Nat) : Nat → Nat
  | 0 => 0
  | k + 1 => d + 16 * rep d k

theorem bcd_lt : ∀ (k n : Nat), n < 10 ^ k → bcd n < 16 ^ k
  | 0, n, h => by
    have : n = 0 := by simpa using h
    subst this; rw [bcd_zero]; decide
  | k + 1, n, h => by
    have h1 : n / 10 < 10 ^ k := by rw [Nat.pow_succ] at h; (first | lia | omega)
    have ih := bcd_lt k _ h1
    rw [bcd_step, Nat.pow_succ]
    (first | lia | omega)

theorem le_bcdF : ∀ (f n : Nat), n ≤ f → n ≤ bcdF f n
  | 0, n, h => by rw [Nat.le_zero.mp h]; exact Nat.zero_le _
  | f + 1, 0, h => Nat.zero_le _
  | f + 1, n + 1, h => by
    have q : (n + 1) / 10 < n + 1 := Nat.div_lt_self (Nat.succ_pos n) (by decide)
    have ih := le_bcdF f ((n + 1) / 10) (Nat.le_of_lt_succ (Nat.lt_of_lt_of_le q h))
    rw [bcdF_step]
    (first | lia | omega)
theorem bcd_ge : ∀ (k n : Nat), 10 ^ k ≤ n → 16 ^ k ≤ bcd n
  | 0, n, h => Nat.le_trans h (le_bcdF n n (Nat.le_refl n))
  | k + 1, n, h => by
    have h1 : 10 ^ k ≤ n / 10 := by rw [Nat.pow_succ] at h; (first | lia | omega)
    have ih := bcd_ge k _ h1
    rw [bcd_step, Nat.pow_succ]
    (first | lia | omega)

theorem lt_of_bcd {k n : Nat} (h : bcd n < 16 ^ k) : n < 10 ^ k := by
  apply Nat.lt_of_not_le
  intro h1
  exact absurd (bcd_ge k n h1) (by (first | lia | omega))

theorem and_nib {d e a b : Nat} (hd : d < 16) (he : e < 16) : (d + 16 * a) &&& (e + 16 * b) = (d &&& e) + 16 * (a &&& b) := by
  have h1 : ((d + 16 * a) &&& (e + 16 * b)) % 16 = (d &&& e) := by
    have : (16 : Nat) = 2 ^ 4 := by decide
    rw [this, Nat.and_mod_two_pow, ← this]
    have e1 : (d + 16 * a) % 16 = d := by (first | lia | omega)
    have e2 : (e + 16 * b) % 16 = e := by (first | lia | omega)
    rw [e1, e2]
  have h2 : ((d + 16 * a) &&& (e + 16 * b)) / 16 = (a &&& b) := by
    have : (16 : Nat) = 2 ^ 4 := by decide
    rw [this, Nat.and_div_two_pow, ← this]
    have e1 : (d + 16 * a) / 16 = a := by (first | lia | omega)
    have e2 : (e + 16 * b) / 16 = b := by (first | lia | omega)
    rw [e1, e2]
  (first | lia | omega)

/-- where a figure is five or more -/
noncomputable def fives : Nat → Nat → Nat
  | 0, _ => 0
  | k + 1, n => (if 5 ≤ n % 10 then 1 else 0) + 16 * fives k (n / 10)

theorem high_nib : ∀ d, d < 10 → (d + 3) &&& 8 = 8 * (if 5 ≤ d then 1 else 0) := by decide
theorem high_is : ∀ (k n : Nat), n < 10 ^ k → (bcd n + rep 3 k) &&& rep 8 k = 8 * fives k n
  | 0, n, h => by simp [rep, fives]
  | k + 1, n, h => by
    have h1 : n / 10 < 10 ^ k := by rw [Nat.pow_succ] at h; (first | lia | omega)
    have ih := high_is k _ h1
    have hm : n % 10 < 10 := Nat.mod_lt _ (by decide)
    rw [bcd_step]
    show (n % 10 + 16 * bcd (n / 10) + (3 + 16 * rep 3 k)) &&& (8 + 16 * rep 8 k) = 8 * ((if 5 ≤ n % 10 then 1 else 0) + 16 * fives k (n / 10))
    have e : n % 10 + 16 * bcd (n / 10) + (3 + 16 * rep 3 k) = (n % 10 + 3) + 16 * (bcd (n / 10) + rep 3 k) := by (first | lia | omega)
    rw [e, and_nib (by (first | lia | omega)) (by decide), ih, high_nib _ hm]
    (first | lia | omega)

theorem dbl_is : ∀ (k n c : Nat), n < 10 ^ k → c ≤ 1 → 2 * (bcd n + 3 * fives k n) + c = bcd (2 * n + c)
  | 0, n, c, h, hc => by
    have h0 : n = 0 := by simpa using h
    subst h0
    have : c = 0 ∨ c = 1 := by (first | lia | omega)
    rcases this with rfl | rfl
    · simp [bcd_zero, fives]
    · rw [bcd_step (2 * 0 + 1)]; simp [bcd_zero, fives]
  | k + 1, n, c, h, hc => by
    have h1 : n / 10 < 10 ^ k := by rw [Nat.pow_succ] at h; (first | lia | omega)
    rw [bcd_step n, bcd_step (2 * n + c)]
    show 2 * (n % 10 + 16 * bcd (n / 10) + 3 * ((if 5 ≤ n % 10 then 1 else 0) + 16 * fives k (n / 10))) + c = _
    by_cases h5 : 5 ≤ n % 10
    · have ih := dbl_is k (n / 10) 1 h1 (by decide)
      have e : (2 * n + c) / 10 = 2 * (n / 10) + 1 := by (first | lia | omega)
      rw [e, if_pos h5]
      (first | lia | omega)
    · have ih := dbl_is k (n / 10) 0 h1 (by decide)
      have e : (2 * n + c) / 10 = 2 * (n / 10) + 0 := by (first | lia | omega)
      rw [e, if_neg h5]
      (first | lia | omega)

theorem doubled_is {k n c : Nat} (h : n < 10 ^ k) (hc : c ≤ 1) :
    (bcd n + ((bcd n + rep 3 k) &&& rep 8 k) / 4 + ((bcd n + rep 3 k) &&& rep 8 k) / 8) * 2 + c = bcd (2 * n + c) := by
  rw [high_is k n h, ← dbl_is k n c h hc]
  (first | lia | omega)

theorem bcd_cat : ∀ (w a b : Nat), b < 10 ^ w → bcd (a * 10 ^ w + b) = bcd a * 16 ^ w + bcd b
  | 0, a, b, h => by
    have : b = 0 := by simpa using h
    subst this; simp [bcd_zero]
  | w + 1, a, b, h => by
    have h1 : b / 10 < 10 ^ w := by rw [Nat.pow_succ] at h; (first | lia | omega)
    have ih := bcd_cat w a (b / 10) h1
    rw [bcd_step (a * 10 ^ (w + 1) + b), bcd_step b]
    have e0 : a * 10 ^ (w + 1) = 10 * (a * 10 ^ w) := by rw [Nat.pow_succ]; ac_rfl
    have e1 : (a * 10 ^ (w + 1) + b) % 10 = b % 10 := by rw [e0]; (first | lia | omega)
    have e2 : (a * 10 ^ (w + 1) + b) / 10 = a * 10 ^ w + b / 10 := by rw [e0]; (first | lia | omega)
    rw [e1, e2, ih]
    have e3 : bcd a * 16 ^ (w + 1) = 16 * (bcd a * 16 ^ w) := by rw [Nat.pow_succ]; ac_rfl
    rw [e3]
    (first | lia | omega)

theorem bcd_nines : ∀ (w b : Nat), b < 10 ^ w → bcd (10 ^ w - 1 - b) + bcd b = rep 9 w
  | 0, b, h => by
    have : b = 0 := by simpa using h
    subst this; simp [bcd_zero, rep]
  | w + 1, b, h => by
    have h1 : b / 10 < 10 ^ w := by rw [Nat.pow_succ] at h; (first | lia | omega)
    have ih := bcd_nines w (b / 10) h1
    have hp : 10 ^ (w + 1) = 10 * 10 ^ w := by rw [Nat.pow_succ]; ac_rfl
    rw [bcd_step (10 ^ (w + 1) - 1 - b), bcd_step b]
    have e1 : (10 ^ (w + 1) - 1 - b) % 10 = 9 - b % 10 := by rw [hp] at h ⊢; (first | lia | omega)
    have e2 : (10 ^ (w + 1) - 1 - b) / 10 = 10 ^ w - 1 - b / 10 := by rw [hp] at h ⊢; (first | lia | omega)
    rw [e1, e2]
    show _ = 9 + 16 * rep 9 w
    (first | lia | omega)

theorem rep_add (d : Nat) : ∀ a b : Nat, rep d (a + b) = rep d a + 16 ^ a * rep d b
  | 0, b => by simp [rep]
  | a + 1, b => by
    have ih := rep_add d a b
    rw [Nat.succ_add]
    show d + 16 * rep d (a + b) = d + 16 * rep d a + 16 ^ (a + 1) * rep d b
    rw [ih, Nat.pow_succ]
    have : 16 ^ a * 16 * rep d b = 16 * (16 ^ a * rep d b) := by ac_rfl
    rw [this]; (first | lia | omega)
theorem rep_lt {d : Nat} (hd : d < 16) : ∀ k, rep d k < 16 ^ k
  | 0 => by show 0 < 1; decide
  | k + 1 => by
    have ih := rep_lt hd k
    show d + 16 * rep d k < 16 ^ (k + 1)
    rw [Nat.pow_succ]; (first | lia | omega)
theorem rep_mul (c d : Nat) : ∀ k, c * rep d k = rep (c * d) k
  | 0 => rfl
  | k + 1 => by
    have ih := rep_mul c d k
    show c * (d + 16 * rep d k) = c * d + 16 * rep (c * d) k
    rw [← ih, Nat.mul_add]
    have : c * (16 * rep d k) = 16 * (c * rep d k) := by ac_rfl
    rw [this]
theorem pow16 (k : Nat) : 16 ^ k = 2 ^ (4 * k) := by rw [Nat.pow_mul]
theorem nines_is {w k : Nat} (h : w ≤ k) : (3 * rep 3 k) &&& (2 ^ (4 * w) - 1) = rep 9 w := by
  rw [rep_mul 3 3 k, Nat.and_two_pow_sub_one_eq_mod, ← pow16]
  obtain ⟨r, rfl⟩ := Nat.le.dest h
  rw [rep_add]
  show (rep 9 w + 16 ^ w * rep 9 r) % 16 ^ w = rep 9 w
  rw [Nat.add_mul_mod_self_left, Nat.mod_eq_of_lt (rep_lt (by decide) w)]

theorem bcd_digit : ∀ (k n : Nat), bcd n / 16 ^ k % 16 = n / 10 ^ k % 10
  | 0, n => by rw [bcd_step]; simp only [Nat.pow_zero, Nat.div_one]; (first | lia | omega)
  | k + 1, n => by
    have ih := bcd_digit k (n / 10)
    have e1 : (16 : Nat) ^ (k + 1) = 16 * 16 ^ k := by rw [Nat.pow_succ]; ac_rfl
    have e2 : (10 : Nat) ^ (k + 1) = 10 * 10 ^ k := by rw [Nat.pow_succ]; ac_rfl
    rw [e1, e2, ← Nat.div_div_eq_div_mul, ← Nat.div_div_eq_div_mul, ← ih, bcd_step]
    have : (n % 10 + 16 * bcd (n / 10)) / 16 = bcd (n / 10) := by (first | lia | omega)
    rw [this]

open PySem.NumText in
theorem val_acc : ∀ (cs : List Nat) (a : Nat), cs.foldl (fun acc c => acc * 10 + (c - 48)) a = a * 10 ^ cs.length + digitsVal cs
  | [], a => by simp [digitsVal]
  | c :: cs, a => by
    have ih1 := val_acc cs (a * 10 + (c - 48))
    have ih2 := val_acc cs (0 * 10 + (c - 48))
    show cs.foldl (fun acc c => acc * 10 + (c - 48)) (a * 10 + (c - 48)) = a * 10 ^ (cs.length + 1) + cs.foldl (fun acc c => acc * 10 + (c - 48)) (0 * 10 + (c - 48))
    rw [ih1, ih2, Nat.pow_succ, Nat.add_mul, Nat.add_mul]
    have : a * 10 * 10 ^ cs.length = a * (10 ^ cs.length * 10) := by ac_rfl
    rw [this]; (first | lia | omega)
open PySem.NumText in
theorem val_append (a b : List Nat) : digitsVal (a ++ b) = digitsVal a * 10 ^ b.length + digitsVal b := by
  unfold digitsVal
  rw [List.foldl_append]
  exact val_acc b _
open PySem.NumText in
theorem val_zeros : ∀ k : Nat, digitsVal (List.replicate k 48) = 0
  | 0 => rfl
  | k + 1 => by
    have h := val_acc (List.replicate k 48) (0 * 10 + (48 - 48))
    rw [val_zeros k] at h
    show (List.replicate k 48).foldl (fun acc c => acc * 10 + (c - 48)) (0 * 10 + (48 - 48)) = 0
    rw [h]; simp

/-- the figures of n, the highest first -/
noncomputable def figs (F n : Nat) : List Nat := (List.range F).reverse.map fun k => 48 + n / 10 ^ k % 10
theorem figs_succ (F n : Nat) : figs (F + 1) n = (48 + n / 10 ^ F % 10) :: figs F n := by
  unfold figs
  rw [List.range_succ, List.reverse_append]
  rfl
theorem figs_len (F n : Nat) : (figs F n).length = F := by simp [figs]
open PySem.NumText in
theorem figs_digits (F n : Nat) : AllDigits (figs F n) := by
  intro c hc
  obtain ⟨k, _, rfl⟩ := List.mem_map.mp hc
  have : n / 10 ^ k % 10 < 10 := Nat.mod_lt _ (by decide)
  (first | lia | omega)
open PySem.NumText in
theorem figs_val_mod : ∀ F n : Nat, digitsVal (figs F n) = n % 10 ^ F
  | 0, n => by simp [figs, digitsVal, Nat.mod_one]
  | F + 1, n => by
    rw [figs_succ]
    have h := val_acc (figs F n) (0 * 10 + (48 + n / 10 ^ F % 10 - 48))
    show (figs F n).foldl (fun acc c => acc * 10 + (c - 48)) (0 * 10 + (48 + n / 10 ^ F % 10 - 48)) = _
    rw [h, figs_val_mod F n, figs_len, Nat.mod_pow_succ]
    have e : 0 * 10 + (48 + n / 10 ^ F % 10 - 48) = n / 10 ^ F % 10 := by (first | lia | omega)
    rw [e, Nat.mul_comm]; (first | lia | omega)
open PySem.NumText in
theorem figs_val {F n : Nat} (h : n < 10 ^ F) : digitsVal (figs F n) = n := by
  rw [figs_val_mod, Nat.mod_eq_of_lt h]
end Mine
end
section
theorem Mine.reset_M2 : True := by
  w_top off
  exact trivial
namespace Mine
/-! which powers compute_powers needs -/
/-- what can be asked for at more than T: W, its half and, for an odd W, the half rounded up -/
noncomputable def Rch (W T y : Int) : Prop := y = W ∨ (T < W ∧ (y = W / 2 ∨ (W % 2 = 1 ∧ y = W / 2 + 1)))
noncomputable def asked (W : Int) : List Int := [W, W / 2, W / 2 + 1, W / 2 / 2, W / 2 / 2 + 1, (W / 2 + 1) / 2, (W / 2 + 1) / 2 + 1]

structure PInv (W T : Int) (ws seen need : List Int) : Prop where
  need_iff : ∀ x, x ∈ need ↔ ∃ y ∈ seen, x = y / 2
  seen_in : ∀ y ∈ seen, T < y ∧ Rch W T y
  ws_in : ∀ x ∈ ws, x ∈ asked W ∧ (Rch W T x ∨ x ≤ T)
  top : T < W → W ∈ seen ∨ W ∈ ws
  sub1 : W ∈ seen → W / 2 ∈ seen ∨ W / 2 ∈ ws ∨ W / 2 ≤ T
  sub2 : W ∈ seen → W % 2 = 1 → W / 2 + 1 ∈ seen ∨ W / 2 + 1 ∈ ws ∨ W / 2 + 1 ≤ T

theorem pinv_start (W T : Int) : PInv W T [W] [] [] where
  need_iff := fun x => by simp
  seen_in := fun y hy => by simp at hy
  ws_in := fun x hx => by
    have : x = W := by simpa using hx
    subst this
    exact ⟨by simp [asked], .inl (.inl rfl)⟩
  top := fun _ => .inr (by simp)
  sub1 := fun h => by simp at h
  sub2 := fun h => by simp at h

theorem pinv_skip {W T : Int} {ws ws' seen need : List Int} (h : PInv W T ws seen need) {x : Int} (hx : x ∈ ws) (hw : ∀ y, y ∈ ws' ↔ y ∈ ws ∧ y ≠ x) (hs : x ∈ seen ∨ x ≤ T) : PInv W T ws' seen need := by
  have ws_of : ∀ y, y ∈ ws → y ∈ seen ∨ y ∈ ws' ∨ y ≤ T := fun y hy => by
    by_cases e : y = x
    · subst e
      exact hs.elim .inl fun q => .inr (.inr q)
    · exact .inr (.inl ((hw y).mpr ⟨hy, e⟩))
  refine ⟨h.need_iff, h.seen_in, fun y hy => h.ws_in y ((hw y).mp hy).1, fun hT => ?_, fun hW => ?_, fun hW ho => ?_⟩
  · rcases h.top hT with q | q
    · exact .inl q
    · rcases ws_of _ q with r | r | r
      · exact .inl r
      · exact .inr r
      · (first | lia | omega)
  · rcases h.sub1 hW with q | q | q
    · exact .inl q
    · exact ws_of _ q
    · exact .inr (.inr q)
  · rcases h.sub2 hW ho with q | q | q
    · exact .inl q
    · exact ws_of _ q
    · exact .inr (.inr q)

/-- the largest that is still cut twice at most -/
noncomputable def Small (W T : Int) : Prop := 0 ≤ W ∧ 2 ≤ T ∧ W ≤ 4 * T - 4

theorem pinv_take {W T : Int} {ws ws' seen seen' need need' : List Int} (hB : Small W T) (h : PInv W T ws seen need) {x : Int} (hx : x ∈ ws) (hT : T < x)
    (hs : ∀ y, y ∈ seen' ↔ y ∈ seen ∨ y = x) (hn : ∀ y, y ∈ need' ↔ y ∈ need ∨ y = x / 2)
    (hw : ∀ y, y ∈ ws' ↔ (y ∈ ws ∧ y ≠ x) ∨ y = x / 2 ∨ (x % 2 = 1 ∧ y = x / 2 + 1)) : PInv W T ws' seen' need' := by
  obtain ⟨hB0, hB1, hB2⟩ := hB
  have hxr : Rch W T x := by
    rcases (h.ws_in x hx).2 with q | q
    · exact q
    · (first | lia | omega)
  have keep : ∀ y, y ∈ seen ∨ y ∈ ws ∨ y ≤ T → y ∈ seen' ∨ y ∈ ws' ∨ y ≤ T := fun y hy => by
    rcases hy with q | q | q
    · exact .inl ((hs y).mpr (.inl q))
    · by_cases e : y = x
      · exact .inl ((hs y).mpr (.inr e))
      · exact .inr (.inl ((hw y).mpr (.inl ⟨q, e⟩)))
    · exact .inr (.inr q)
  refine ⟨fun z => ?_, fun y hy => ?_, fun y hy => ?_, fun hTW => ?_, fun hW => ?_, fun hW ho => ?_⟩
  · rw [hn, h.need_iff]
    constructor
    · rintro (⟨y, hy, e⟩ | e)
      · exact ⟨y, (hs y).mpr (.inl hy), e⟩
      · exact ⟨x, (hs x).mpr (.inr rfl), e⟩
    · rintro ⟨y, hy, e⟩
      rcases (hs y).mp hy with q | q
      · exact .inl ⟨y, q, e⟩
      · subst q; exact .inr e
  · rcases (hs y).mp hy with q | q
    · exact h.seen_in y q
    · subst q; exact ⟨hT, hxr⟩
  · rcases (hw y).mp hy with ⟨q, _⟩ | q | ⟨qo, q⟩
    · exact h.ws_in y q
    · subst q
      rcases hxr with rfl | ⟨hTW, rfl | ⟨ho, rfl⟩⟩
      · exact ⟨by simp [asked], .inl (.inr ⟨hT, .inl rfl⟩)⟩
      · exact ⟨by simp [asked], .inr (by (first | lia | omega))⟩
      · exact ⟨by simp [asked], .inr (by (first | lia | omega))⟩
    · subst q
      rcases hxr with rfl | ⟨hTW, rfl | ⟨ho, rfl⟩⟩
      · exact ⟨by simp [asked], .inl (.inr ⟨hT, .inr ⟨qo, rfl⟩⟩)⟩
      · exact ⟨by simp [asked], .inr (by (first | lia | omega))⟩
      · exact ⟨by simp [asked], .inr (by (first | lia | omega))⟩
  · rcases h.top hTW with q | q
    · exact .inl ((hs W).mpr (.inl q))
    · rcases keep W (.inr (.inl q)) with r | r | r
      · exact .inl r
      · exact .inr r
      · (first | lia | omega)
  · rcases (hs W).mp hW with q | q
    · exact keep _ (h.sub1 q)
    · subst q
      exact .inr (.inl ((hw _).mpr (.inr (.inl rfl))))
  · rcases (hs W).mp hW with q | q
    · exact keep _ (h.sub2 q ho)
    · subst q
      exact .inr (.inl ((hw _).mpr (.inr (.inr ⟨ho, rfl⟩))))

theorem pinv_seen3 {W T : Int} {ws seen need : List Int} (h : PInv W T ws seen need) (hnd : seen.Nodup) : seen.length ≤ 3 :=
  hnd.length_le_of_subset (l₂ := [W, W / 2, W / 2 + 1]) fun y hy => by
    rcases (h.seen_in y hy).2 with rfl | ⟨_, rfl | ⟨_, rfl⟩⟩ <;> simp
theorem pinv_ws7 {W T : Int} {ws seen need : List Int} (h : PInv W T ws seen need) (hnd : ws.Nodup) : ws.length ≤ 7 :=
  hnd.length_le_of_subset (l₂ := asked W) fun y hy => (h.ws_in y hy).1
theorem pinv_need3 {W T : Int} {ws seen need : List Int} (h : PInv W T ws seen need) (hnd : need.Nodup) : need.length ≤ 3 :=
  hnd.length_le_of_subset (l₂ := [W / 2, W / 2 / 2, (W / 2 + 1) / 2]) fun z hz => by
    obtain ⟨y, hy, rfl⟩ := (h.need_iff z).mp hz
    rcases (h.seen_in y hy).2 with rfl | ⟨_, rfl | ⟨_, rfl⟩⟩ <;> simp
/-- behind the loop -/
theorem pinv_end {W T : Int} {seen need : List Int} (h : PInv W T [] seen need) (x : Int) :
    x ∈ need ↔ T < W ∧ (x = W / 2 ∨ (T < W / 2 ∧ x = W / 2 / 2) ∨ (W % 2 = 1 ∧ T < W / 2 + 1 ∧ x = (W / 2 + 1) / 2)) := by
  rw [h.need_iff]
  constructor
  · rintro ⟨y, hy, rfl⟩
    obtain ⟨hT, hR⟩ := h.seen_in y hy
    rcases hR with rfl | ⟨hTW, rfl | ⟨ho, rfl⟩⟩
    · exact ⟨hT, .inl rfl⟩
    · exact ⟨hTW, .inr (.inl ⟨hT, rfl⟩)⟩
    · exact ⟨hTW, .inr (.inr ⟨ho, hT, rfl⟩)⟩
  · rintro ⟨hT, q⟩
    have hW : W ∈ seen := by
      rcases h.top hT with r | r
      · exact r
      · simp at r
    rcases q with rfl | ⟨h1, rfl⟩ | ⟨ho, h1, rfl⟩
    · exact ⟨W, hW, rfl⟩
    · rcases h.sub1 hW with r | r | r
      · exact ⟨_, r, rfl⟩
      · simp at r
      · (first | lia | omega)
    · rcases h.sub2 hW ho with r | r | r
      · exact ⟨_, r, rfl⟩
      · simp at r
      · (first | lia | omega)

/-- a rising list is told by its members -/
theorem rising_eq : ∀ {xs ys : List Int}, xs.Pairwise (· < ·) → ys.Pairwise (· < ·) → (∀ x, x ∈ xs ↔ x ∈ ys) → xs = ys
  | [], [], _, _, _ => rfl
  | [], y :: ys, _, _, h => by have := (h y).mpr (.head _); cases this
  | x :: xs, [], _, _, h => by have := (h x).mp (.head _); cases this
  | x :: xs, y :: ys, hx, hy, h => by
    have hx' := List.pairwise_cons.mp hx
    have hy' := List.pairwise_cons.mp hy
    have e : x = y := by
      rcases List.mem_cons.mp ((h x).mp (.head _)) with q | q
      · exact q
      · rcases List.mem_cons.mp ((h y).mpr (.head _)) with r | r
        · exact r.symm
        · have a1 := hx'.1 y r
          have a2 := hy'.1 x q
          (first | lia | omega)
    subst e
    congr 1
    refine rising_eq hx'.2 hy'.2 fun z => ?_
    constructor
    · intro hz
      rcases List.mem_cons.mp ((h z).mp (.tail _ hz)) with q | q
      · have := hx'.1 z hz; (first | lia | omega)
      · exact q
    · intro hz
      rcases List.mem_cons.mp ((h z).mpr (.tail _ hz)) with q | q
      · have := hy'.1 z hz; (first | lia | omega)
      · exact q
theorem rising_of {ns : List Int} (hp : ns.Pairwise (· ≤ ·)) (hn : ns.Nodup) : ns.Pairwise (· < ·) := by
  have := List.Pairwise.and hp hn
  exact this.imp fun ⟨a, b⟩ => by (first | lia | omega)

theorem need_cases {W T : Int} {ns : List Int} (hS : Small W T) (hgap : T < W / 2 ∨ W / 2 + 1 ≤ T) (hTW : T < W) (hst : ns.Pairwise (· < ·))
    (hmem : ∀ x, x ∈ ns ↔ T < W ∧ (x = W / 2 ∨ (T < W / 2 ∧ x = W / 2 / 2) ∨ (W % 2 = 1 ∧ T < W / 2 + 1 ∧ x = (W / 2 + 1) / 2))) :
    (W / 2 + 1 ≤ T ∧ ns = [W / 2]) ∨ (T < W / 2 ∧ (ns = [W / 2 / 2, W / 2] ∨ ns = [W / 2 / 2, W / 2 / 2 + 1, W / 2])) := by
  obtain ⟨hB0, hB1, hB2⟩ := hS
  rcases hgap with h | h
  · right
    refine ⟨h, ?_⟩
    by_cases hc : W % 2 = 1 ∧ (W / 2 + 1) / 2 = W / 2 / 2 + 1
    · right
      refine rising_eq hst (by simp; (first | lia | omega)) fun x => ?_
      rw [hmem]
      simp only [List.mem_cons, List.not_mem_nil, or_false]
      (first | lia | omega)
    · left
      refine rising_eq hst (by simp; (first | lia | omega)) fun x => ?_
      rw [hmem]
      simp only [List.mem_cons, List.not_mem_nil, or_false]
      (first | lia | omega)
  · left
    refine ⟨h, ?_⟩
    refine rising_eq hst (by simp) fun x => ?_
    rw [hmem]
    simp only [List.mem_cons, List.not_mem_nil, or_false]
    (first | lia | omega)

/-- each exponent behind the first comes from one before it -/
noncomputable def Chain5 (ns : List Int) : Prop := ∀ i x, ns[i + 1]? = some x → 1 ≤ x ∧ x ∉ ns.take (i + 1) ∧ (x - 1 ∈ ns.take (i + 1) ∨ x / 2 ∈ ns.take (i + 1))
theorem chain_need {W T : Int} {ns : List Int} (hS : Small W T) (h : (W / 2 + 1 ≤ T ∧ ns = [W / 2]) ∨ (T < W / 2 ∧ (ns = [W / 2 / 2, W / 2] ∨ ns = [W / 2 / 2, W / 2 / 2 + 1, W / 2]))) : Chain5 ns := by
  obtain ⟨hB0, hB1, hB2⟩ := hS
  rcases h with ⟨_, rfl⟩ | ⟨h, rfl | rfl⟩
  · intro i x hx
    simp at hx
  · intro i x hx
    match i with
    | 0 =>
      have e : W / 2 = x := by simpa using hx
      subst e
      refine ⟨by (first | lia | omega), ?_, .inr (by simp)⟩
      simp; (first | lia | omega)
    | i + 1 => simp at hx
  · intro i x hx
    match i with
    | 0 =>
      have e : W / 2 / 2 + 1 = x := by simpa using hx
      subst e
      refine ⟨by (first | lia | omega), ?_, .inl (by simp)⟩
      simp; (first | lia | omega)
    | 1 =>
      have e : W / 2 = x := by simpa using hx
      subst e
      refine ⟨by (first | lia | omega), ?_, .inr (by simp)⟩
      simp; (first | lia | omega)
    | i + 2 => simp at hx
end Mine
end
section
theorem Mine.reset_M3 : True := by
  w_top off
  exact trivial
open PySem PySem.W PySem.NumText PyProof.Rows
set_option linter.unusedVariables false
namespace Mine
/-! the numbers of the law, plainly -/
theorem pow600 : 2 ^ 600 < 10 ^ 181 := by decide +kernel
theorem small_W {n W : Nat} (hW : 181 ≤ W) (h : n < 2 ^ 600) : n < 10 ^ W :=
  Nat.lt_of_lt_of_le (Nat.lt_trans h pow600) (Nat.pow_le_pow_right (by decide) hW)
/-- a field is put behind -/
theorem field_step {v W n i : Nat} (hn : n < 10 ^ W) (h1 : 10 ^ (W * i) ≤ v) (h2 : v < 2 * 10 ^ (W * i)) :
    10 ^ (W * (i + 1)) ≤ v * 10 ^ W + n ∧ v * 10 ^ W + n < 2 * 10 ^ (W * (i + 1)) := by
  have hp : 0 < 10 ^ W := Nat.pow_pos (by decide)
  rw [Nat.mul_add, Nat.mul_one, Nat.pow_add]
  have a1 := Nat.mul_le_mul_right (10 ^ W) h1
  have a2 := Nat.mul_le_mul_right (10 ^ W) (Nat.succ_le_of_lt h2)
  rw [Nat.succ_mul, Nat.mul_assoc] at a2
  (first | lia | omega)
theorem field_even {v W n : Nat} (hn : n < 10 ^ W) :
    ((v : Int) * 10 ^ (W : Int).toNat + (n : Int) = ((v * 10 ^ W + n : Nat) : Int)) ∧ (((bcd v : Nat) : Int) * 2 ^ (4 * (W : Int)).toNat + ((bcd n : Nat) : Int) = ((bcd (v * 10 ^ W + n) : Nat) : Int)) := by
  constructor
  · rw [Int.toNat_natCast]; push_cast; rfl
  · rw [bcd_cat W v n hn, show (4 * (W : Int)).toNat = 4 * W from by (first | lia | omega), pow16]; push_cast; rfl
theorem field_odd {v W n : Nat} (hn : n < 10 ^ W) :
    ((v : Int) * 10 ^ (W : Int).toNat + (10 ^ (W : Int).toNat - 1 - (n : Int)) = ((v * 10 ^ W + (10 ^ W - 1 - n) : Nat) : Int)) ∧
      (((bcd v : Nat) : Int) * 2 ^ (4 * (W : Int)).toNat + (((rep 9 W : Nat) : Int) - ((bcd n : Nat) : Int)) = ((bcd (v * 10 ^ W + (10 ^ W - 1 - n)) : Nat) : Int)) := by
  have hlt : 10 ^ W - 1 - n < 10 ^ W := by (first | lia | omega)
  have e9 := bcd_nines W n hn
  constructor
  · rw [Int.toNat_natCast]
    have : ((10 ^ W - 1 - n : Nat) : Int) = (10 ^ W : Int) - 1 - n := by
      rw [Nat.sub_sub, Int.natCast_sub (by (first | lia | omega))]; push_cast; (first | lia | omega)
    rw [Int.natCast_add, Int.natCast_mul, this]; push_cast; rfl
  · rw [bcd_cat W v _ hlt, show (4 * (W : Int)).toNat = 4 * W from by (first | lia | omega), pow16, ← e9]
    push_cast
    (first | lia | omega)
theorem turns {W : Nat} (h1 : 181 ≤ W) (h2 : W ≤ 280) : 2050 ≤ W * (2049 / W + 1) ∧ W * (2049 / W + 1) ≤ 2329 := by
  have e := Nat.div_add_mod 2049 W
  have l := Nat.mod_lt 2049 (show 0 < W by (first | lia | omega))
  rw [Nat.mul_add, Nat.mul_one]
  (first | lia | omega)
theorem turns_le {W : Nat} (h1 : 181 ≤ W) : 2049 / W ≤ 11 := by
  refine Nat.le_of_lt_succ (Nat.div_lt_of_lt_mul ?_)
  (first | lia | omega)
theorem turns_int (W : Nat) : (2049 : Int).fdiv (W : Int) + 1 = ((2049 / W + 1 : Nat) : Int) := by
  rw [Int.fdiv_eq_ediv_of_nonneg _ (Int.natCast_nonneg _)]
  rw [Int.natCast_add, Int.natCast_ediv]
  rfl
theorem bits_4 {W : Nat} (h : W ≤ 1000) : Builtin.Int.intBits 4 + Builtin.Int.intBits (W : Int) ≤ 100000 := by
  have : Builtin.Int.intBits (W : Int) ≤ 64 := intBits_le_64 (by (first | lia | omega)) (by (first | lia | omega))
  rw [show Builtin.Int.intBits 4 = 3 from by decide +kernel]
  (first | lia | omega)
theorem bits_pow10 (W : Nat) : Builtin.Int.intBits ((10 : Int) ^ (W : Int).toNat) ≤ 4 * W + 1 := by
  rw [Int.toNat_natCast]
  exact intBits_pow_le (by decide +kernel) W
theorem bits_dec {v k : Nat} (h : v < 10 ^ k) : Builtin.Int.intBits (v : Int) ≤ 4 * k := by
  refine intBits_le ?_
  rw [Int.natAbs_natCast, ← pow16]
  exact Nat.lt_of_lt_of_le h (Nat.pow_le_pow_left (by decide) _)
theorem field_small {v W i : Nat} (hi : i ≤ 12) (hW : W ≤ 280) (h2 : v < 2 * 10 ^ (W * i)) : v < 10 ^ 3400 := by
  have a : W * i ≤ 280 * 12 := Nat.mul_le_mul hW hi
  have b : 10 ^ (W * i) ≤ 10 ^ (280 * 12) := Nat.pow_le_pow_right (by decide) a
  have c : 2 * 10 ^ (280 * 12) ≤ 10 ^ 3400 := by
    rw [show 3400 = 40 + 280 * 12 from rfl, Nat.pow_add]
    exact Nat.mul_le_mul_right _ (by decide)
  (first | lia | omega)
/-- one doubling -/
theorem dbl_step {v M i c : Nat} (hc : c ≤ 1) (h1 : 10 ^ M ≤ v) (h2 : v < 2 ^ (i + 1) * 10 ^ M) : 10 ^ M ≤ 2 * v + c ∧ 2 * v + c < 2 ^ (i + 1 + 1) * 10 ^ M := by
  rw [Nat.pow_succ 2 (i + 1), Nat.mul_right_comm]
  (first | lia | omega)
theorem dbl_small {v M i : Nat} (hi : i ≤ 100) (hM : M ≤ 2329) (h2 : v < 2 ^ (i + 1) * 10 ^ M) : v < 10 ^ 2400 := by
  have a : 2 ^ (i + 1) ≤ 2 ^ 101 := Nat.pow_le_pow_right (by decide) (by (first | lia | omega))
  have b : 10 ^ M ≤ 10 ^ 2329 := Nat.pow_le_pow_right (by decide) hM
  have c : (2 : Nat) ^ 101 ≤ 10 ^ 71 := by decide +kernel
  refine Nat.lt_of_lt_of_le h2 (Nat.le_trans (Nat.mul_le_mul (Nat.le_trans a c) b) ?_)
  rw [← Nat.pow_add]
  exact Nat.le_refl _
end Mine
end
section
theorem Mine.reset_I1 : True := by
  w_top off
  exact trivial
open PySem PySem.W PySem.NumText PySem.Calls PyProof.Rows
set_option maxRecDepth 100000
set_option linter.unusedVariables false
namespace Mine
/-! int of a long text of figures -/
theorem digits_limit {M : Model} {A : Around} {E : Value → Shared → Prop} {s : Shared} {Q : Nat → Shared → Prop} (hn : s.heap.NoDigits) (h : Q 4300 s) :
    wpAny M A Builtin.intMaxStrDigits Q E s := by
  obtain ⟨mc, hns, hnone⟩ := hn
  unfold Builtin.intMaxStrDigits
  refine wpAny_bind (wpAny_nsGet hns ?_)
  rw [hnone]
  exact wpAny_pure h
theorem wp_textN {M : Model} {A : Around} {E : Value → Shared → Prop} {s : Shared} {Q : Value → Shared → Prop} {v : Value} {text : List Nat} {n : Int} (hd : s.heap.NoDigits)
    (hr : (int_private% "readNumeral") (if (text.takeWhile (· != 0)).length ≤ 640 then 0 else 4300) 10 (text.takeWhile (· != 0)) = (int_private% "Numeral.value") n)
    (ha : ((text.takeWhile (· != 0)).length == text.length) = true) (h : Q (.int n s.toks) { s with toks := s.toks + 1 }) :
    wpAny M A ((int_private% "intFromText") v text 10) Q E s := by
  obtain ⟨hp, g, d, tk, os⟩ := s
  by_cases hs : (text.takeWhile (· != 0)).length ≤ 640
  · rw [if_pos hs] at hr
    exact KIN.wp_text hs hr ha h
  · rw [if_neg hs] at hr
    repeat (any_goals (first
      | assumption
      | (with_reducible refine wpAny_ite_false (decide_eq_false hs) ?_)
      | (with_reducible refine digits_limit hd ?_)
      | (with_reducible refine wpAny_ite_true (decide_eq_true ha) ?_)
      | wp_step))
    all_goals (try rw [hr])
    all_goals (try dsimp only)
    repeat (any_goals (first
      | assumption
      | (with_reducible refine wpAny_ite_true (decide_eq_true ha) ?_)
      | wp_step))
theorem meets_text {x : PySem.Str} {u : Tok} {n : Int} (hl : x.length ≤ sizeLine) (hn : PySem.intText? x = some n) :
    Meets (Builtin.«int.__new__» ⟨[.type "int", .str x u], []⟩) (fun _ R s => s.heap.NoDigits ∧ R (.ok (.ret (.int n s.toks))) { s with toks := s.toks + 1 }) :=
  .of_wp fun prog w A R s ⟨hd, h⟩ => by
    obtain ⟨hp, g, d, tk, os⟩ := s
    have f1 := F.conv_sub_int
    have f2 := F.madeHere_int
    have f3 := KIN.str_int
    have f4 := KIN.str_idx
    have f5 := KIN.str_trunc
    have f6 : typeOf (.str x u) = pure (.type "str") := rfl
    have hr : (int_private% "readNumeral") (if (numSeenOf x).length ≤ 640 then 0 else 4300) 10 (numSeenOf x) = (int_private% "Numeral.value") n ∧ ((numSeenOf x).length == (numTextOf x).length) = true := by
      rcases readAny x hl with ⟨m, h1, h2, h3⟩ | ⟨h1, _⟩
      · rw [hn] at h1
        injection h1 with h1
        subst h1
        exact ⟨h3, h2⟩
      · rw [hn] at h1
        cases h1
    have hk := KIN.Hid.mk hr
    clear hr hl hn
    repeat (any_goals (first
      | assumption
      | ((with_reducible show wpAny _ _ ((int_private% "intFromText") _ _ _) _ _ _); refine wp_textN hd hk.out.1 hk.out.2 ?_)
      | wp_step))
    all_goals first | exact ⟨_, rfl, h⟩ | skip
section
variable {prog : Program} {w : World} {A : Around} {E : Value → Shared → Prop} {s : Shared} {Q : Value → Shared → Prop} {x : PySem.Str} {t : Tok}
theorem call_int_figs (hd : s.heap.NoDigits) (h0 : AllDigits x.cps.toList) (h1 : x.cps.toList ≠ []) (h2 : x.length ≤ 4300)
    (h : Q (.int (digitsVal x.cps.toList : Nat) s.toks) { s with toks := s.toks + 1 }) : wpAny (model prog w) A (call (.type "int") [.str x t]) Q E s :=
  call_int_1 (meets_text (Nat.le_trans h2 (by rw [sizeLine_eq]; decide)) (intText_digits h0 h1 h2)) ⟨hd, rfl, h⟩
end
end Mine
end
section
theorem Mine.reset_S1 : True := by
  w_top off
  exact trivial
open PySem PySem.W PyProof.Rows
set_option maxRecDepth 100000
namespace Mine
/-! texts as lists of signs -/
abbrev sg (x : Str) : List Nat := x.cps.toList
theorem sg_append (x y : Str) : sg (x ++ y) = sg x ++ sg y := by
  show (x ++ y).cps.toList = x.cps.toList ++ y.cps.toList
  rw [Str.cps_append, Array.toList_append]
theorem sg_len (x : Str) : (sg x).length = x.length := Array.length_toList
theorem sg_ext {x y : Str} (h : sg x = sg y) : x = y := by
  cases x; cases y
  exact congrArg Str.mk (Array.toList_inj.mp h)
theorem sg_empty : sg (Str.ofString "") = [] := by decide
theorem join_none (texts : List Str) : sg (Txt.join (Str.ofString "") texts) = texts.flatMap sg := by
  show sg (Builtin.Str.glued (Str.ofString "") texts) = _
  rw [StrLaws.glued_eq_join]
  induction texts with
  | nil => decide
  | cons x r ih =>
    cases r with
    | nil => show sg x = _; simp
    | cons y r =>
      show sg (x ++ Str.ofString "" ++ Str.join (Str.ofString "") (y :: r)) = _
      rw [sg_append, sg_append, ih, sg_empty, List.append_nil]; simp [List.flatMap_cons]
end Mine
end
section
theorem Mine.reset_S2 : True := by
  w_top off
  exact trivial
open PySem PySem.W PySem.NumText PyProof.Rows
set_option maxRecDepth 100000
namespace Mine
theorem slice_in {x : Str} {i j : Nat} (hij : i ≤ j) (hj : j ≤ x.length) : (Txt.slice x (some (i : Int)) (some (j : Int))).cps.toList = (x.cps.toList.drop i).take (j - i) := by
  have h := eq_of_beq (slice_closesL (x := x) (i := i) (j := j) (by (first | lia | omega)) (by (first | lia | omega)) (by (first | lia | omega)))
  rw [h]
  show (List.take ((j : Int) - i).toNat (List.drop (i : Int).toNat x.cps.toList)) = _
  rw [Int.toNat_natCast, show ((j : Int) - i).toNat = j - i from by (first | lia | omega)]
theorem indices_past {i : Int} {j n : Nat} (hj : n ≤ j) : Builtin.Str.strSliceIndices (some i) (some (j : Int)) 1 n = Builtin.Str.strSliceIndices (some i) (some (n : Int)) 1 n := by
  unfold Builtin.Str.strSliceIndices
  dsimp only
  rw [if_neg (show ¬ ((j : Int) < 0) by (first | lia | omega)), if_neg (show ¬ ((n : Int) < 0) by (first | lia | omega)), if_pos (show (1 : Int) > 0 by decide), Int.min_eq_right (show (n : Int) ≤ j by (first | lia | omega)), Int.min_eq_right (Int.le_refl _)]
  simp only [show (1 : Int) > 0 by decide, if_true]
theorem slice_past {x : Str} {i : Int} {j : Nat} (hj : x.length ≤ j) : Txt.slice x (some i) (some (j : Int)) = Txt.slice x (some i) (some (x.length : Int)) := by
  unfold Txt.slice
  rw [indices_past hj]
theorem slice_ss {x : Str} {i j : Nat} (hi : i ≤ x.length) (hij : i ≤ j) : (Txt.slice x (some (i : Int)) (some (j : Int))).cps.toList = (x.cps.toList.drop i).take (j - i) := by
  by_cases hj : j ≤ x.length
  · exact slice_in hij hj
  · rw [slice_past (by (first | lia | omega)), slice_in hi (Nat.le_refl _)]
    have hl : (x.cps.toList.drop i).length = x.length - i := by rw [List.length_drop]; rfl
    rw [List.take_of_length_le (by rw [hl]; (first | lia | omega)), List.take_of_length_le (by rw [hl]; (first | lia | omega))]
end Mine
end
section
theorem Mine.reset_S3 : True := by
  w_top off
  exact trivial
open PySem PySem.W PySem.NumText PyProof.Rows
set_option maxRecDepth 100000
namespace Mine
/-- the signs that rstrip takes away, of the first 128 -/
noncomputable def spc (c : Nat) : Bool := (9 ≤ c && c ≤ 13) || (28 ≤ c && c ≤ 32)
theorem inR_one (lo hi c : Nat) : inR lo hi ⟨#[c]⟩ = (lo ≤ c && c ≤ hi) := by
  unfold inR
  show (!(Spec.ltCps [c] [lo]) && !(Spec.ltCps [hi] [c])) = _
  have e : ∀ a b : Nat, Spec.ltCps [a] [b] = decide (a < b) := fun a b => by simp [Spec.ltCps]
  rw [e, e]
  have e1 : (!decide (c < lo)) = decide (lo ≤ c) := by
    by_cases h : lo ≤ c
    · rw [decide_eq_true h, decide_eq_false (by omega)]; rfl
    · rw [decide_eq_false h, decide_eq_true (by omega)]; rfl
  have e2 : (!decide (hi < c)) = decide (c ≤ hi) := by
    by_cases h : c ≤ hi
    · rw [decide_eq_true h, decide_eq_false (by omega)]; rfl
    · rw [decide_eq_false h, decide_eq_true (by omega)]; rfl
  rw [e1, e2]
theorem spS_one (c : Nat) : spS ⟨#[c]⟩ = spc c := by
  unfold spS spc
  rw [inR_one, inR_one]
theorem sub_list (x : Str) (j : Nat) : sg (Builtin.Str.strSub x 0 j) = (sg x).take j := by
  show (x.cps.extract 0 j).toList = x.cps.toList.take j
  simp
theorem rstrip_text {x : Str} {body blanks : List Nat} (hx : sg x = body ++ blanks) (hA : ∀ c ∈ sg x, c < 128) (hb : ∀ c ∈ blanks, spc c = true) (hl : ∀ c, body.getLast? = some c → spc c = false) :
    sg (Txt.rstrip x) = body := by
  obtain ⟨hi, h0, h1, h2, h3⟩ := rstrip_cut hA
  rw [h1, sub_list, hx]
  have hlen : x.length = body.length + blanks.length := by rw [← sg_len, hx, List.length_append]
  have hget : ∀ k, k < x.length → x.cps.getD k 0 = (body ++ blanks).getD k 0 := by
    intro k hk
    rw [← hx]
    simp [sg, Array.getD_eq_getD_getElem?]
  have e : hi = body.length := by
    rcases Nat.lt_trichotomy hi body.length with h | h | h
    · exfalso
      have q := h2 (body.length - 1) (by omega) (by omega)
      rw [hget _ (by omega), spS_one] at q
      have : body.getLast? = some ((body ++ blanks).getD (body.length - 1) 0) := by
        rw [List.getLast?_eq_getElem?, List.getD_eq_getElem?_getD, List.getElem?_append_left (by omega)]
        rw [List.getElem?_eq_getElem (by omega)]; rfl
      rw [hl _ this] at q
      cases q
    · exact h
    · exfalso
      rcases h3 with q | q
      · omega
      · rw [hget _ (by omega), spS_one] at q
        have hm : (body ++ blanks).getD (hi - 1) 0 ∈ blanks := by
          rw [List.getD_eq_getElem?_getD, List.getElem?_append_right (by omega), List.getElem?_eq_getElem (by omega)]
          exact List.getElem_mem _
        rw [hb _ hm] at q
        cases q
  rw [e, List.take_left]
theorem strike_text {x : Str} : sg (Txt.replace x (Str.ofString "_") (Str.ofString "")) = (sg x).filter (· != 95) := by
  have e1 : Str.ofString "_" = ⟨#[95]⟩ := by decide
  have e2 : Str.ofString "" = ⟨#[]⟩ := by decide
  rw [e1, e2]
  exact replace_strikes x 95
theorem rstrip_tok {prog : Program} {w : World} {A : Around} {E : Value → Shared → Prop} {s : Shared} {x : Str} {t : Tok} {Q : Value → Shared → Prop} (h : ∀ t' k, s.toks ≤ k → Q (.str (Txt.rstrip x) t') { s with toks := k }) (hsz : x.length ≤ sizeLine) :
    wpAny (model prog w) A (call (.builtin "str.rstrip") [.str x t]) Q E s := by
  refine call_gives F.slot_str_rstrip (typeIs_str _ _ _) F.entry_str_rstrip (F.args_str_rstrip_1 _) (gives_str_rstrip x t) ?_
  have e : Txt.rstrip x = if PySem.stripSame Unicode.isSpace false true x = true then x else PySem.stripped Unicode.isSpace false true x := rfl
  rw [e] at h
  by_cases hc : PySem.stripSame Unicode.isSpace false true x = true
  · rw [if_pos hc] at h ⊢
    exact h t s.toks (Nat.le_refl _)
  · rw [if_neg hc] at h ⊢
    exact ⟨fits_stripped _ _ _ hsz, h s.toks (s.toks + 1) (Nat.le_succ _)⟩
end Mine
end
section
theorem Mine.reset_S4 : True := by
  w_top off
  exact trivial
open PySem PySem.W PySem.NumText PyProof.Rows
set_option maxRecDepth 100000
namespace Mine
/-! a text cut in equal parts and joined by underscores -/
theorem sg_bar : sg (Str.ofString "_") = [95] := by decide
theorem join_bar_cons (x y : Str) (r : List Str) : sg (Txt.join (Str.ofString "_") (x :: y :: r)) = sg x ++ [95] ++ sg (Txt.join (Str.ofString "_") (y :: r)) := by
  show sg (Builtin.Str.glued _ _) = _ ++ _ ++ sg (Builtin.Str.glued _ _)
  rw [StrLaws.glued_eq_join, StrLaws.glued_eq_join]
  show sg (x ++ Str.ofString "_" ++ Str.join (Str.ofString "_") (y :: r)) = _
  rw [sg_append, sg_append, sg_bar]
theorem join_bar_one (x : Str) : sg (Txt.join (Str.ofString "_") [x]) = sg x := by
  show sg (Builtin.Str.glued _ _) = _
  rw [StrLaws.glued_eq_join]; rfl
theorem join_bar_nil : sg (Txt.join (Str.ofString "_") []) = [] := by decide
theorem join_bar_strike : ∀ ts : List Str, (sg (Txt.join (Str.ofString "_") ts)).filter (· != 95) = (ts.flatMap sg).filter (· != 95)
  | [] => by rw [join_bar_nil]; rfl
  | [x] => by rw [join_bar_one]; simp
  | x :: y :: r => by
    rw [join_bar_cons, List.filter_append, List.filter_append, join_bar_strike (y :: r), List.flatMap_cons (x := x), List.filter_append]
    simp
theorem join_bar_mem : ∀ (ts : List Str) (c : Nat), c ∈ sg (Txt.join (Str.ofString "_") ts) → c = 95 ∨ c ∈ ts.flatMap sg
  | [], c, h => by rw [join_bar_nil] at h; cases h
  | [x], c, h => by rw [join_bar_one] at h; exact .inr (by simpa using h)
  | x :: y :: r, c, h => by
    rw [join_bar_cons] at h
    rcases List.mem_append.mp h with h | h
    · rcases List.mem_append.mp h with h | h
      · exact .inr (List.mem_flatMap.mpr ⟨x, .head _, h⟩)
      · exact .inl (List.mem_singleton.mp h)
    · rcases join_bar_mem (y :: r) c h with q | q
      · exact .inl q
      · exact .inr (by rw [List.flatMap_cons]; exact List.mem_append_right _ q)
theorem join_bar_len : ∀ ts : List Str, (sg (Txt.join (Str.ofString "_") ts)).length ≤ (ts.flatMap sg).length + ts.length
  | [] => by rw [join_bar_nil]; simp
  | [x] => by rw [join_bar_one]; simp
  | x :: y :: r => by
    have := join_bar_len (y :: r)
    rw [join_bar_cons, List.flatMap_cons (x := x)]
    simp only [List.length_append, List.length_cons, List.length_nil] at this ⊢
    (first | lia | omega)
/-- where the parts begin -/
noncomputable def stepKs (e n : Nat) : List Int := (List.range n).map fun i => ((i * e : Nat) : Int)
theorem stepKs_length (e n : Nat) : (stepKs e n).length = n := by simp [stepKs]
theorem stepKs_at {e n i : Nat} (hi : i < n) : (stepKs e n)[i]? = some ((i * e : Nat) : Int) := by
  simp [stepKs, hi]
theorem mem_stepKs {e n : Nat} {k : Int} (h : k ∈ stepKs e n) : ∃ i, i < n ∧ k = ((i * e : Nat) : Int) := by
  simp only [stepKs, List.mem_map, List.mem_range] at h
  obtain ⟨i, hi, rfl⟩ := h
  exact ⟨i, hi, rfl⟩
noncomputable def partN (len e : Nat) : Nat := (len + e - 1) / e
theorem partN_is {len e : Nat} (he : 1 ≤ e) : Builtin.Range.rangeSize 0 (len : Int) (e : Int) = ((partN len e : Nat) : Int) := by
  rw [rangeSize_pos (by (first | lia | omega)) (by (first | lia | omega))]
  unfold partN
  rw [show (len : Int) + e - 1 = ((len + e - 1 : Nat) : Int) from by (first | lia | omega)]
  rfl
theorem partN_ge {len e : Nat} (he : 1 ≤ e) : len ≤ partN len e * e := by
  unfold partN
  have h := Nat.div_add_mod (len + e - 1) e
  have h2 := Nat.mod_lt (len + e - 1) (show 0 < e by (first | lia | omega))
  rw [Nat.mul_comm] at h
  (first | lia | omega)
theorem partN_start {len e i : Nat} (he : 1 ≤ e) (hi : i < partN len e) : i * e < len := by
  unfold partN at hi
  have h := Nat.div_mul_le_self (len + e - 1) e
  have h2 : (i + 1) * e ≤ (len + e - 1) / e * e := Nat.mul_le_mul_right _ hi
  rw [Nat.add_mul, Nat.one_mul] at h2
  (first | lia | omega)
theorem partN_le {len e : Nat} (he : 1 ≤ e) : partN len e ≤ len := by
  by_cases h : partN len e ≤ len
  · exact h
  · have := partN_start (len := len) (i := len) he (by (first | lia | omega))
    have h2 := Nat.le_mul_of_pos_right len (show 0 < e by (first | lia | omega))
    (first | lia | omega)
noncomputable def partOf (x : Str) (e : Nat) (k : Int) : Str := Txt.slice x (some k) (some (k + e))
theorem part_signs {x : Str} {e i : Nat} (hi : i * e ≤ x.length) : sg (partOf x e ((i * e : Nat) : Int)) = ((sg x).drop (i * e)).take e := by
  unfold partOf
  rw [show ((i * e : Nat) : Int) + (e : Int) = ((i * e + e : Nat) : Int) from by (first | lia | omega)]
  have := slice_ss (x := x) (i := i * e) (j := i * e + e) hi (by (first | lia | omega))
  rw [show i * e + e - i * e = e from by (first | lia | omega)] at this
  exact this
theorem parts_upto {x : Str} {e : Nat} (he : 1 ≤ e) : ∀ n, n ≤ partN x.length e → ((stepKs e n).map (partOf x e)).flatMap sg = (sg x).take (n * e)
  | 0, _ => by simp [stepKs]
  | n + 1, h => by
    have ih := parts_upto (x := x) he n (by (first | lia | omega))
    have e1 : stepKs e (n + 1) = stepKs e n ++ [((n * e : Nat) : Int)] := by simp [stepKs, List.range_succ]
    rw [e1, List.map_append, List.flatMap_append, ih]
    have hs := partN_start he (show n < partN x.length e by (first | lia | omega))
    simp only [List.map_cons, List.map_nil, List.flatMap_cons, List.flatMap_nil, List.append_nil]
    rw [part_signs (by (first | lia | omega)), Nat.add_mul, Nat.one_mul, List.take_add]
theorem parts_all {x : Str} {e : Nat} (he : 1 ≤ e) : ((stepKs e (partN x.length e)).map (partOf x e)).flatMap sg = sg x := by
  rw [parts_upto he _ (Nat.le_refl _), List.take_of_length_le]
  rw [sg_len]; exact partN_ge he
end Mine
end
section
theorem Mine.reset_L1 : True := by
  w_top off
  exact trivial
open PySem PySem.W PyProof.Rows
set_option maxRecDepth 100000
set_option linter.unusedVariables false
namespace Mine
/-! a list comprehension over a range of any step -/
section
variable {prog : Program} {w : World} {A : Around} {E : Value → Shared → Prop} {s : Shared} {h₀ : Heap} {L : Addr} {m : Str → Option Value} {env : Env}

/-- the source of a comprehension is a range, and the turns go through -/
inductive SrcStep (prog : Program) (w : World) (A : Around) (h₀ : Heap) (L : Addr) (m : Str → Option Value) (env : Env) (elt : Expr) (x : Str) (scope : Scope) (cl : List (Str × Addr)) (Fin : Shared → List Value → List (Addr × Obj) → Prop) (xv : Value) (s₁ : Shared) : Prop
  | mk (r : Addr) (a b c : Int) (t u v : Tok) (n : Nat) (news : List (Addr × Obj)) (e : xv = .ref r) (hh : A.handled = none) (F : Fr h₀ L s₁.heap m) (N : News h₀ L s₁.heap news) (hr : IsRange s₁.heap r a b c t u v) (hsm : Builtin.Range.small a b c = true) (hn : Builtin.Range.rangeSize a b c = ((n : Nat) : Int)) (hsz : n ≤ sizeLine)
    (rest : ∀ g, LCg.CompRest prog w A h₀ L m env elt x scope cl { s₁ with heap := g } (fun _ => True) (fun i v => ∃ t, v = .int (a + (i : Int) * c) t) (Fin { s₁ with heap := g }) n 0 [] news) : SrcStep prog w A h₀ L m env elt x scope cl Fin xv s₁

theorem SrcStep.intro {elt : Expr} {x : Str} {scope : Scope} {cl : List (Str × Addr)} {Fin : Shared → List Value → List (Addr × Obj) → Prop} {r : Addr} {a b c : Int} {t u v : Tok} {n : Nat} {news : List (Addr × Obj)} {s₁ : Shared}
    (hh : A.handled = none) (F : Fr h₀ L s₁.heap m) (N : News h₀ L s₁.heap news) (hr : IsRange s₁.heap r a b c t u v) (hsm : Builtin.Range.small a b c = true) (hn : Builtin.Range.rangeSize a b c = ((n : Nat) : Int)) (hsz : n ≤ sizeLine)
    (h : ∀ g, LCg.CompRest prog w A h₀ L m env elt x scope cl { s₁ with heap := g } (fun _ => True) (fun i v => ∃ t, v = .int (a + (i : Int) * c) t) (Fin { s₁ with heap := g }) n 0 [] news) :
    SrcStep prog w A h₀ L m env elt x scope cl Fin (.ref r) s₁ := ⟨r, a, b, c, t, u, v, n, news, rfl, hh, F, N, hr, hsm, hn, hsz, h⟩

theorem step_st {I : Addr} {a c : Int} {n : Nat} : ∀ i (h h' : Heap) (o : Obj) (nw : List (Addr × Obj)), IsRangeIter h I (a + (i : Nat) * c) ((n : Int) - (i : Nat)) c → h.get? I = some o → h'.get? I = some o → (∀ b o, h₀.get? b = some o → h'.get? b = some o) → News h₀ L h' nw → True → IsRangeIter h' I (a + (i : Nat) * c) ((n : Int) - (i : Nat)) c := by
  intro i h h' o nw st e e' _ _ _
  have q : h.get? I = some _ := st
  show h'.get? I = some _
  rw [e', ← e]; exact q

theorem ListComp_step {elt iter : Expr} {x : Str} {px : Pos} {scope : Scope} {cl : List (Str × Addr)} {pos : Pos} {Q : Value → Shared → Prop} (F₀ : Fr h₀ L s.heap m)
    (hclos : closureFor scope env = pure cl) (hcell : ∀ y ∈ scope.names, y.2 ≠ .cell) (hkind : scope.kind = .function)
    (hnames : ∀ y ∈ scope.names, y.2 = .local → scope.names.lookup y.1 = some .local) (hx : scope.names.lookup x = some .local)
    (h : wpAny (model prog w) A (eval iter env) (SrcStep prog w A h₀ L m env elt x scope cl (fun s₂ => LCg.FinE h₀ L m s₂ Q)) E s)
    (hs : ∀ x, foldedSetIterable iter env x = pure x := by intro _; rfl) :
    wpAny (model prog w) A (eval (.ListComp elt [⟨.Name x px, iter, [], 0⟩] scope pos) env) Q E s := by
  rw [eval_ListComp]
  refine wpAny_comprehension_free (use := none) rfl hs hclos hkind hnames (wpAny_mono h (fun xv s₁ h₁ => ?_) fun _ _ e => e)
  obtain ⟨r, a, b, c, t, u, v, n, news, rfl, hh, F, N, hr, hsm, hn, hsz, R⟩ := h₁
  refine wpAny_pyIter_range hr hsm ?_
  refine LCg.block_U (Walks.range hh s₁.heap.objs.size a c n) hsz (fun i h st => ⟨_, st⟩) step_st hcell hkind hx
    (by show IsRangeIter _ _ _ _ _; rw [hn]; simpa using Heap.get?_push_size _ rfl) (fun b hb => ?_)
    (F.keeps fun _ _ e => Heap.get?_push_of_some _ e) (N.grown fun _ _ e => Heap.get?_push_of_some _ e) (Nat.ne_of_lt F.ns.lt) (next_is_new F)
    (fun p hp => Nat.ne_of_lt (Heap.lt_size (N p hp).1)) trivial (R _) ?_
  · rw [List.mem_singleton.mp hb]
    show s₁.heap.objs.size < (s₁.heap.push _).objs.size
    rw [Heap.size_push]; exact Nat.lt_succ_self _
  · intro D C h tk m' ys news' F' N' o1 hns hC₀ hD₀ hCL hDL hCD offC fin
    refine ⟨m', hns, fun h'' hs'' => fin D h'' tk (F'.change hs'' hCL hC₀) (fun p hp => ⟨hs''.extBut _ _ ?_ (N' p hp).1, (N' p hp).2⟩) o1⟩
    rcases List.mem_cons.mp hp with rfl | hp
    · exact Ne.symm hCD
    · exact offC p hp
end
end Mine
end
section
theorem Mine.reset_L2 : True := by
  w_top off
  exact trivial
open PySem PySem.W PyProof.Rows
set_option maxRecDepth 100000
set_option linter.unusedVariables false
namespace Mine
/-! loops whose turns may draw (a set's order): a while, a for -/
inductive WdEnd {σ : Type} (h₀ : Heap) (L : Addr) (s : Shared) (Led : σ → List (Addr × Obj)) (ps : σ → List (Str × Value)) (stored : List Str) (m₀ : Str → Option Value) (P : σ → Prop) (μ : σ → Nat) (c : σ) (s₂ : Shared) : Prop
  | mk (c' : σ) (h' : Heap) (tk : Nat) (dr : Drawn) (m' : Str → Option Value) (news' : List (Addr × Obj)) (e : s₂ = { s with heap := h', toks := tk, drawn := dr }) (F : Fr h₀ L h' m') (N : News h₀ L h' news') (hn : ∀ p ∈ Led c', p ∈ news')
    (hk : ∀ p ∈ ps c', m' p.1 = some p.2) (hr : ∀ z, (∀ p ∈ ps c', z ≠ p.1) → stored.contains z = false → m' z = m₀ z) (hp : P c') (hm : μ c' < μ c) : WdEnd h₀ L s Led ps stored m₀ P μ c s₂
inductive WdInv {σ : Type} (h₀ : Heap) (L : Addr) (s : Shared) (Led : σ → List (Addr × Obj)) (ps : σ → List (Str × Value)) (stored : List Str) (m₀ : Str → Option Value) (P : σ → Prop) (μ : σ → Nat) (n : Nat) (s' : Shared) : Prop
  | mk (h₁ : Heap) (tk₁ : Nat) (dr₁ : Drawn) (m₁ : Str → Option Value) (c : σ) (e : s' = { s with heap := h₁, toks := tk₁, drawn := dr₁ }) (F : Fr h₀ L h₁ m₁) (N : News h₀ L h₁ (Led c)) (hn : μ c = n) (hk : ∀ p ∈ ps c, m₁ p.1 = some p.2)
    (hr : ∀ z, (∀ p ∈ ps c, z ≠ p.1) → stored.contains z = false → m₁ z = m₀ z) (hp : P c) : WdInv h₀ L s Led ps stored m₀ P μ n s'
noncomputable def WdPost {σ : Type} (h₀ : Heap) (L : Addr) (s : Shared) (Led : σ → List (Addr × Obj)) (ps : σ → List (Str × Value)) (stored : List Str) (m₀ : Str → Option Value) (P : σ → Prop) (μ : σ → Nat) (Q : Flow → Shared → Prop) (c : σ) (f : Flow) (s₂ : Shared) : Prop :=
  match f with
  | .ret v => Q (.ret v) s₂
  | .brk => Q .next s₂
  | _ => WdEnd h₀ L s Led ps stored m₀ P μ c s₂
theorem wd_end {σ : Type} {h₀ : Heap} {L : Addr} {s : Shared} {Led : σ → List (Addr × Obj)} {ps : σ → List (Str × Value)} {stored : List Str} {m₀ m' : Str → Option Value} {P : σ → Prop} {μ : σ → Nat} {c : σ} {h' : Heap} {tk : Nat} {dr : Drawn} {news' : List (Addr × Obj)} (c' : σ)
    (F : Fr h₀ L h' m') (N : News h₀ L h' news') (hn : ∀ p ∈ Led c', p ∈ news') (hk : ∀ p ∈ ps c', m' p.1 = some p.2) (hr : ∀ z, (∀ p ∈ ps c', z ≠ p.1) → stored.contains z = false → m' z = m₀ z) (hp : P c') (hm : μ c' < μ c) :
    WdEnd h₀ L s Led ps stored m₀ P μ c { s with heap := h', toks := tk, drawn := dr } := ⟨c', h', tk, dr, m', news', rfl, F, N, hn, hk, hr, hp, hm⟩

section
variable {prog : Program} {w : World} {A : Around} {E : Value → Shared → Prop} {Q : Flow → Shared → Prop} {s : Shared} {env : Env} {h₀ : Heap} {L : Addr}
theorem wd_while {σ : Type} {test : Expr} {body : List Stmt} {pos : Pos} {m₀ : Str → Option Value} (Led : σ → List (Addr × Obj)) (ps : σ → List (Str × Value)) (stored : List Str) (P : σ → Prop) (μ : σ → Nat) (c₀ : σ)
    (F : Fr h₀ L s.heap m₀) (N : News h₀ L s.heap (Led c₀)) (hk : ∀ p ∈ ps c₀, m₀ p.1 = some p.2) (hp : P c₀)
    (turn : ∀ (c : σ) (u : Str → Option Value) h tk dr, P c → Fr h₀ L h (kstB (fun z => if stored.contains z then u z else m₀ z) (ps c)) → News h₀ L h (Led c) →
      wpAny (model prog w) A (isTrue test env (eval test env)) (fun b s₂ =>
        if b = true then wpAny (model prog w) A (execs body env) (WdPost h₀ L s Led ps stored m₀ P μ Q c) E s₂ else Q .next s₂) E { s with heap := h, toks := tk, drawn := dr })
    (hE : PassesOwn (model prog w) A env E := by passes_own) :
    wpAny (model prog w) A (exec (.While test body [] pos) env) Q E s := by
  refine wpAny_While (codeAny_whileLoop (WdInv h₀ L s Led ps stored m₀ P μ)
    ?_ (μ c₀) ⟨s.heap, s.toks, s.drawn, m₀, c₀, rfl, F, N, rfl, hk, fun _ _ _ => rfl, hp⟩)
  rintro n s' ⟨h₁, tk₁, dr₁, m₁, c, rfl, F₁, N₁, rfl, k1, k2, hp1⟩
  refine wpAny_mono (turn c m₁ h₁ tk₁ dr₁ hp1 (ksw_fr k1 k2 F₁) N₁) (fun b s₂ h₂ => ?_) hE
  cases b with
  | false =>
    simp only [Bool.false_eq_true, if_false] at h₂ ⊢
    exact wpAny_execs_nil h₂
  | true =>
    simp only [if_true] at h₂ ⊢
    refine wpAny_mono h₂ (fun f s₃ h₃ => ?_) hE
    have fin : WdEnd h₀ L s Led ps stored m₀ P μ c s₃ → ∃ m, m < μ c ∧ WdInv h₀ L s Led ps stored m₀ P μ m s₃ := by
      rintro ⟨c', h', tk, dr, m', news', rfl, F', N', hn, hk', hr', hp', hm'⟩
      exact ⟨μ c', hm', h', tk, dr, m', c', rfl, F', fun p hp => N' p (hn p hp), rfl, hk', hr', hp'⟩
    cases f with
    | next => exact fin h₃
    | cont => exact fin h₃
    | brk => exact h₃
    | ret v => exact h₃
end
end Mine
end
section
theorem Mine.reset_L3 : True := by
  w_top off
  exact trivial
open PySem PySem.W PyProof.Rows
set_option maxRecDepth 100000
set_option linter.unusedVariables false
namespace Mine
/-! a for whose turns may draw -/
inductive FdEnd {σ : Type} (h₀ : Heap) (L : Addr) (x : Str) (s : Shared) (Led : σ → List (Addr × Obj)) (ps : σ → List (Str × Value)) (stored : List Str) (m₀ : Str → Option Value) (P : Nat → σ → Prop) (own : List (Addr × Obj)) (i : Nat) (s₂ : Shared) : Prop
  | mk (c' : σ) (h' : Heap) (tk : Nat) (dr : Drawn) (m' : Str → Option Value) (news' : List (Addr × Obj)) (e : s₂ = { s with heap := h', toks := tk, drawn := dr }) (F : Fr h₀ L h' m') (N : News h₀ L h' news') (hn : ∀ p ∈ Led c', p ∈ news') (ho : ∀ p ∈ own, p ∈ news')
    (hk : ∀ p ∈ ps c', m' p.1 = some p.2) (hr : ∀ z, z ≠ x → (∀ p ∈ ps c', z ≠ p.1) → stored.contains z = false → m' z = m₀ z) (hp : P i c') : FdEnd h₀ L x s Led ps stored m₀ P own i s₂
inductive FdInv {σ : Type} (h₀ : Heap) (L : Addr) (x : Str) (s : Shared) (Led : σ → List (Addr × Obj)) (ps : σ → List (Str × Value)) (stored : List Str) (m₀ : Str → Option Value) (P : Nat → σ → Prop) (St : Nat → Heap → Prop) (n k : Nat) (s' : Shared) : Prop
  | mk (h' : Heap) (tk : Nat) (dr : Drawn) (m' : Str → Option Value) (c : σ) (i : Nat) (e : s' = { s with heap := h', toks := tk, drawn := dr }) (st : St i h') (F : Fr h₀ L h' m') (N : News h₀ L h' (Led c)) (hk : ∀ p ∈ ps c, m' p.1 = some p.2)
    (hr : ∀ z, z ≠ x → (∀ p ∈ ps c, z ≠ p.1) → stored.contains z = false → m' z = m₀ z) (hp : P i c) (hi : i ≤ n) (ek : k = n + 1 - i) : FdInv h₀ L x s Led ps stored m₀ P St n k s'
noncomputable def FdPost {σ : Type} (h₀ : Heap) (L : Addr) (x : Str) (s : Shared) (Led : σ → List (Addr × Obj)) (ps : σ → List (Str × Value)) (stored : List Str) (m₀ : Str → Option Value) (P : Nat → σ → Prop) (own : List (Addr × Obj)) (Q : Flow → Shared → Prop) (i : Nat) (f : Flow) (s₂ : Shared) : Prop :=
  match f with
  | .ret v => Q (.ret v) s₂
  | .brk => Q .next s₂
  | _ => FdEnd h₀ L x s Led ps stored m₀ P own i s₂
theorem fd_end {σ : Type} {h₀ : Heap} {L : Addr} {x : Str} {s : Shared} {Led : σ → List (Addr × Obj)} {ps : σ → List (Str × Value)} {stored : List Str} {m₀ m' : Str → Option Value} {P : Nat → σ → Prop} {own news' : List (Addr × Obj)} {i : Nat} {h' : Heap} {tk : Nat} {dr : Drawn} (c' : σ)
    (F : Fr h₀ L h' m') (N : News h₀ L h' news') (hn : ∀ p ∈ Led c', p ∈ news') (ho : ∀ p ∈ own, p ∈ news') (hk : ∀ p ∈ ps c', m' p.1 = some p.2) (hr : ∀ z, z ≠ x → (∀ p ∈ ps c', z ≠ p.1) → stored.contains z = false → m' z = m₀ z) (hp : P i c') :
    FdEnd h₀ L x s Led ps stored m₀ P own i { s with heap := h', toks := tk, drawn := dr } := ⟨c', h', tk, dr, m', news', rfl, F, N, hn, ho, hk, hr, hp⟩

/-- the loop over what is walked goes through -/
inductive LoopD (prog : Program) (w : World) (A : Around) (h₀ : Heap) (env : Env) (x : Str) (body : List Stmt) (Q : Flow → Shared → Prop) (E : Value → Shared → Prop) (it : Value) (s : Shared) : Prop
  | mk (σ : Type) (I : Addr) (fp wr : List Addr) (n : Nat) (V : Nat → Value → Prop) (St : Nat → Heap → Prop) (Led : σ → List (Addr × Obj)) (ps : σ → List (Str × Value)) (stored : List Str) (m₀ : Str → Option Value) (P : Nat → σ → Prop) (c₀ : σ)
    (e : it = .ref I) (W : Walks prog w A I fp wr n V St) (hLf : env.locals ∉ fp) (hwr : ∀ b ∈ wr, h₀.get? b = none) (hoff : ∀ i c, P i c → ∀ p ∈ Led c, p.1 ∉ fp) (hst : St 0 s.heap) (F : Fr h₀ env.locals s.heap m₀) (N : News h₀ env.locals s.heap (Led c₀)) (hk : ∀ p ∈ ps c₀, m₀ p.1 = some p.2) (hp : P 0 c₀)
    (turn : ∀ (c : σ) i v (u : Str → Option Value) h tk dr own, i < n → V i v → (∀ p ∈ own, p.1 ∈ fp) → P i c →
      Fr h₀ env.locals h (fun y => if y = x then some v else kstB (fun z => if stored.contains z then u z else m₀ z) (ps c) y) → News h₀ env.locals h (Led c ++ own) →
      wpAny (model prog w) A (execs body env) (FdPost h₀ env.locals x s Led ps stored m₀ P own Q (i + 1)) E { s with heap := h, toks := tk, drawn := dr })
    (done : ∀ (c : σ) (u : Str → Option Value) h tk dr, P n c → Fr h₀ env.locals h (fun y => if y = x then u y else kstB (fun z => if stored.contains z then u z else m₀ z) (ps c) y) → News h₀ env.locals h (Led c) → Q .next { s with heap := h, toks := tk, drawn := dr }) :
    LoopD prog w A h₀ env x body Q E it s
section
variable {prog : Program} {w : World} {A : Around} {E : Value → Shared → Prop} {Q : Flow → Shared → Prop} {s : Shared} {env : Env} {h₀ : Heap}
theorem LoopD.intro {σ : Type} {x : Str} {body : List Stmt} {I : Addr} {fp wr : List Addr} {n : Nat} {V : Nat → Value → Prop} {St : Nat → Heap → Prop} {m₀ : Str → Option Value} (Led : σ → List (Addr × Obj)) (ps : σ → List (Str × Value)) (stored : List Str) (P : Nat → σ → Prop) (c₀ : σ)
    (W : Walks prog w A I fp wr n V St) (hLf : env.locals ∉ fp) (hwr : ∀ b ∈ wr, h₀.get? b = none) (hoff : ∀ i c, P i c → ∀ p ∈ Led c, p.1 ∉ fp) (hst : St 0 s.heap) (F : Fr h₀ env.locals s.heap m₀) (N : News h₀ env.locals s.heap (Led c₀)) (hk : ∀ p ∈ ps c₀, m₀ p.1 = some p.2) (hp : P 0 c₀)
    (turn : ∀ (c : σ) i v (u : Str → Option Value) h tk dr own, i < n → V i v → (∀ p ∈ own, p.1 ∈ fp) → P i c →
      Fr h₀ env.locals h (fun y => if y = x then some v else kstB (fun z => if stored.contains z then u z else m₀ z) (ps c) y) → News h₀ env.locals h (Led c ++ own) →
      wpAny (model prog w) A (execs body env) (FdPost h₀ env.locals x s Led ps stored m₀ P own Q (i + 1)) E { s with heap := h, toks := tk, drawn := dr })
    (done : ∀ (c : σ) (u : Str → Option Value) h tk dr, P n c → Fr h₀ env.locals h (fun y => if y = x then u y else kstB (fun z => if stored.contains z then u z else m₀ z) (ps c) y) → News h₀ env.locals h (Led c) → Q .next { s with heap := h, toks := tk, drawn := dr }) :
    LoopD prog w A h₀ env x body Q E (.ref I) s := ⟨σ, I, fp, wr, n, V, St, Led, ps, stored, m₀, P, c₀, rfl, W, hLf, hwr, hoff, hst, F, N, hk, hp, turn, done⟩

theorem For_D {x : Str} {px pos : Pos} {iter : Expr} {body : List Stmt} {m : Str → Option Value} (F₀ : Fr h₀ env.locals s.heap m) (hx : env.kindOf x = some .local)
    (hp : (env.scope.kind == .class || (env.scope.kind == .module && env.locals != env.globals)) = false)
    (h : wpAny (model prog w) A (eval iter env) (fun xv s₁ => wpAny (model prog w) A (pyIter xv) (fun it s₂ => LoopD prog w A h₀ env x body Q E it s₂) E s₁) E s)
    (hs : ∀ x, foldedSetIterable iter env x = pure x := by intro _; rfl)
    (hE : PassesOwn (model prog w) A env E := by passes_own) :
    wpAny (model prog w) A (exec (.For (.Name x px) iter body [] pos) env) Q E s := by
  refine wpAny_For (wpAny_mono h (fun xv s₁ h₁ => wpAny_mono h₁ (fun it s₂ h₂ => ?_) fun _ _ e => e) fun _ _ e => e) hs
  obtain ⟨σ, I, fp, wr, n, V, St, Led, ps, stored, m₀, P, c₀, rfl, W, hLf, hwr, hoff, hst, F, N, hk, hp0, turn, done⟩ := h₂
  have hLw : env.locals ∉ wr := fun h => hLf (W.sub _ h)
  have old : ∀ b o, h₀.get? b = some o → b ∉ wr := fun b o e hb => by rw [hwr b hb] at e; cases e
  refine codeAny_forLoop
    (FdInv h₀ env.locals x s₂ Led ps stored m₀ P St n) ?_ (n + 1)
    ⟨s₂.heap, s₂.toks, s₂.drawn, m₀, c₀, 0, rfl, hst, F, N, hk, fun _ _ _ _ => rfl, hp0, Nat.zero_le _, rfl⟩
  rintro k s' ⟨h', tk, dr, m', c, i, rfl, hst', F', N', k1, k2, hP, hi, rfl⟩
  have next : ∀ h₁ : Heap, (∀ b o, b ∉ wr → h'.get? b = some o → h₁.get? b = some o) → Fr h₀ env.locals h₁ m' ∧ News h₀ env.locals h₁ (Led c) := fun h₁ hk₁ =>
    ⟨⟨F'.ns.at' fun o e => hk₁ _ o hLw e, fun b o e => hk₁ b o (old b o e) (F'.keep b o e), F'.above⟩, fun p hp => ⟨hk₁ _ _ (fun hb => hoff i c hP p hp (W.sub _ hb)) (N' p hp).1, (N' p hp).2⟩⟩
  by_cases hlt : i < n
  · refine W.item i _ _ _ hlt hst' fun v h₁ tk₁ hV hst₁ hk₁ => ?_
    obtain ⟨F₁, N₁⟩ := next h₁ hk₁
    refine wpAny_assign_Name (wpAny_storeName_local hx F₁.ns (fun h₂ hn₂ hs₂ => ?_) hp)
    have F₂ := F₁.set hn₂ hs₂
    have Nown : News h₀ env.locals h₂ (ownOf h₀ fp h₂) := news_ownOf hLf
    have N₂ : News h₀ env.locals h₂ (Led c ++ ownOf h₀ fp h₂) := fun p hp => (List.mem_append.mp hp).elim (fun q => (N₁.set hs₂) p q) fun q => Nown p q
    refine wpAny_mono (wpAny_passesOwn hE (turn c i v m' h₂ _ _ (ownOf h₀ fp h₂) hlt hV ownOf_sub hP (kst_fr k1 k2 F₂) N₂)) (fun f s₃ h₃ => ?_) fun _ _ e => e
    have fin : FdEnd h₀ env.locals x s₂ Led ps stored m₀ P (ownOf h₀ fp h₂) (i + 1) s₃ → ∃ m, m < n + 1 - i ∧ FdInv h₀ env.locals x s₂ Led ps stored m₀ P St n m s₃ := by
      rintro ⟨c', h₃', tk₃, dr₃, m₂, news₂, rfl, F₃, N₃, a1, a2, b1, b2, hP₃⟩
      refine ⟨n + 1 - (i + 1), by (first | lia | omega), h₃', tk₃, dr₃, m₂, c', i + 1, rfl, ?_, F₃, fun p hp => N₃ p (a1 p hp), b1, b2, hP₃, hlt, rfl⟩
      refine W.frame _ _ _ hst₁ fun b hb o e => ?_
      have e₂ : h₂.get? b = some o := (hs₂.2 b fun q => hLf (q ▸ hb)).trans e
      cases hn : h₀.get? b with
      | some o₀ =>
        have : o₀ = o := by have := F₂.keep b o₀ hn; rw [e₂] at this; exact (Option.some.inj this).symm
        exact this ▸ F₃.keep b o₀ hn
      | none => exact (N₃ _ (a2 _ (mem_ownOf hb hn e₂))).1
    cases f with
    | ret v => exact h₃
    | brk => exact h₃
    | cont => exact fin h₃
    | next => exact fin h₃
  · have hin : i = n := by (first | lia | omega)
    subst hin
    refine W.done _ _ _ hst' fun h₁ tk₁ hk₁ => wpAny_execs_nil ?_
    obtain ⟨F₁, N₁⟩ := next h₁ hk₁
    exact done c m' h₁ tk₁ dr hP (kst_frOut k1 k2 F₁) N₁
end
end Mine
end
section
theorem Mine.reset_L4 : True := by
  w_top off
  exact trivial
open PySem PySem.W PyProof.Rows
set_option maxRecDepth 100000
set_option linter.unusedVariables false
namespace Mine
/-! a for over a list of tuples, its turns may draw -/
inductive FtEnd (h₀ : Heap) (L : Addr) (s : Shared) (stored : List Str) (m₀ : Str → Option Value) (led : List (Addr × Obj)) (s₂ : Shared) : Prop
  | mk (h' : Heap) (tk : Nat) (dr : Drawn) (m' : Str → Option Value) (news' : List (Addr × Obj)) (e : s₂ = { s with heap := h', toks := tk, drawn := dr }) (F : Fr h₀ L h' m') (N : News h₀ L h' news') (hn : ∀ p ∈ led, p ∈ news') (hr : ∀ z, stored.contains z = false → m' z = m₀ z) : FtEnd h₀ L s stored m₀ led s₂
inductive FtInv (h₀ : Heap) (L : Addr) (s : Shared) (stored : List Str) (m₀ : Str → Option Value) (led : List (Addr × Obj)) (St : Nat → Heap → Prop) (n k : Nat) (s' : Shared) : Prop
  | mk (h' : Heap) (tk : Nat) (dr : Drawn) (m' : Str → Option Value) (i : Nat) (e : s' = { s with heap := h', toks := tk, drawn := dr }) (st : St i h') (F : Fr h₀ L h' m') (N : News h₀ L h' led) (hr : ∀ z, stored.contains z = false → m' z = m₀ z) (hi : i ≤ n) (ek : k = n + 1 - i) : FtInv h₀ L s stored m₀ led St n k s'
noncomputable def FtPost (h₀ : Heap) (L : Addr) (s : Shared) (stored : List Str) (m₀ : Str → Option Value) (led : List (Addr × Obj)) (Q : Flow → Shared → Prop) (f : Flow) (s₂ : Shared) : Prop :=
  match f with
  | .ret v => Q (.ret v) s₂
  | .brk => Q .next s₂
  | _ => FtEnd h₀ L s stored m₀ led s₂
inductive LoopT (prog : Program) (w : World) (A : Around) (h₀ : Heap) (env : Env) (target : Expr) (body : List Stmt) (Q : Flow → Shared → Prop) (xv : Value) (s : Shared) : Prop
  | mk (l : Addr) (ts : List Addr) (k : Nat) (led : List (Addr × Obj)) (stored : List Str) (m₀ : Str → Option Value) (e : xv = .ref l) (hh : A.handled = none) (hm : (l, W.listOf (ts.map Value.ref).toArray k) ∈ led) (F : Fr h₀ env.locals s.heap m₀) (N : News h₀ env.locals s.heap led)
    (turn : ∀ t ∈ ts, ∀ (u : Str → Option Value) h tk dr own, Fr h₀ env.locals h (fun z => if stored.contains z then u z else m₀ z) → News h₀ env.locals h (led ++ own) →
      wpAny (model prog w) A (assign target env (.ref t)) (fun _ s₂ => wpAny (model prog w) A (execs body env) (FtPost h₀ env.locals s stored m₀ (led ++ own) Q) (fun _ _ => False) s₂) (fun _ _ => False) { s with heap := h, toks := tk, drawn := dr })
    (done : ∀ (u : Str → Option Value) h tk dr, Fr h₀ env.locals h (fun z => if stored.contains z then u z else m₀ z) → News h₀ env.locals h led → Q .next { s with heap := h, toks := tk, drawn := dr }) :
    LoopT prog w A h₀ env target body Q xv s
section
variable {prog : Program} {w : World} {A : Around} {Q : Flow → Shared → Prop} {s : Shared} {env : Env} {h₀ : Heap}
theorem For_T {elts : List Expr} {x1 : Nat} {tp pos : Pos} {iter : Expr} {body : List Stmt}
    (h : wpAny (model prog w) A (eval iter env) (LoopT prog w A h₀ env (.Tuple elts x1 tp) body Q) (fun _ _ => False) s)
    (hs : ∀ x, foldedSetIterable iter env x = pure x := by intro _; rfl) :
    wpAny (model prog w) A (exec (.For (.Tuple elts x1 tp) iter body [] pos) env) Q (fun _ _ => False) s := by
  refine wpAny_For (wpAny_mono h (fun xv s₁ h₁ => ?_) fun _ _ e => e) hs
  obtain ⟨l, ts, kk, led, stored, m₀, rfl, hh, hmem, F, N, turn, done⟩ := h₁
  have hl : s₁.heap.IsList l (ts.map Value.ref).toArray := N.isList hmem
  have hlt : l < s₁.heap.objs.size := by obtain ⟨_, e, _⟩ := hl; exact Heap.lt_size e
  refine wpAny_pyIter_list hl ?_
  have up : ∀ b o, s₁.heap.get? b = some o → (s₁.heap.push { cls := .type "list_iterator", data := .fields #[.ref l, .int 0 0] }).get? b = some o := fun b o e => Heap.get?_push_of_some _ e
  have W := Walks.list (prog := prog) (w := w) hh s₁.heap.objs.size l (Nat.ne_of_lt hlt) (ts.map Value.ref).toArray
  have hI : h₀.get? s₁.heap.objs.size = none := next_is_new F
  have hLf : env.locals ∉ [s₁.heap.objs.size, l] := fun hm => by
    rcases List.mem_cons.mp hm with e | hm
    · exact absurd F.ns.lt (by rw [e]; exact Nat.lt_irrefl _)
    · have e := List.mem_singleton.mp hm
      exact (N _ hmem).2.1 e.symm
  have hoff : ∀ p ∈ led, p.1 ∉ [s₁.heap.objs.size] := fun p hp hm => absurd (Heap.lt_size (N p hp).1) (by rw [List.mem_singleton.mp hm]; exact Nat.lt_irrefl _)
  have same : ∀ {h : Heap} {m' : Str → Option Value}, (∀ z, stored.contains z = false → m' z = m₀ z) → Fr h₀ env.locals h m' → Fr h₀ env.locals h (fun z => if stored.contains z then m' z else m₀ z) := fun {h m'} hz F' => by
    have e : (fun z => if stored.contains z then m' z else m₀ z) = m' := funext fun z => by
      cases hc : stored.contains z with
      | true => rfl
      | false => exact (hz z hc).symm
    rw [e]; exact F'
  generalize hsz : (ts.map Value.ref).toArray.size = n at W
  refine codeAny_forLoop_any
    (FtInv h₀ env.locals s₁ stored m₀ led (fun i h' => h'.IsListIter s₁.heap.objs.size l i ∧ h'.IsList l (ts.map Value.ref).toArray) n) ?_ (n + 1)
    ⟨_, s₁.toks, s₁.drawn, m₀, 0, rfl, ⟨⟨_, Heap.get?_push_size _ rfl, rfl, rfl⟩, hl.push _⟩, F.push _, fun p hp => ⟨up _ _ (N p hp).1, (N p hp).2⟩, fun _ _ => rfl, Nat.zero_le _, rfl⟩
  rintro k s' ⟨h', tk, dr, m', i, rfl, hst', F', N', k2, hi, rfl⟩
  have next : ∀ h₁ : Heap, (∀ b o, b ∉ [s₁.heap.objs.size] → h'.get? b = some o → h₁.get? b = some o) → Fr h₀ env.locals h₁ m' ∧ News h₀ env.locals h₁ led := fun h₁ hk₁ =>
    ⟨⟨F'.ns.at' fun o e => hk₁ _ o (fun hm => hLf (W.sub _ hm)) e, fun b o e => hk₁ b o (fun hb => by rw [List.mem_singleton.mp hb, hI] at e; cases e) (F'.keep b o e), F'.above⟩, fun p hp => ⟨hk₁ _ _ (hoff p hp) (N' p hp).1, (N' p hp).2⟩⟩
  by_cases hlt' : i < n
  · refine W.item i _ _ _ hlt' hst' fun v h₁ tk₁ hV hst₁ hk₁ => ?_
    obtain ⟨F₁, N₁⟩ := next h₁ hk₁
    rw [List.getElem?_toArray, List.getElem?_map] at hV
    obtain ⟨t, ht, rfl⟩ : ∃ t, ts[i]? = some t ∧ Value.ref t = v := by
      cases ht : ts[i]? with
      | none => rw [ht] at hV; cases hV
      | some t => rw [ht] at hV; exact ⟨t, rfl, Option.some.inj hV⟩
    refine wpAny_letOwnedTupleGo_listiter hst₁.1 ?_
    have Nown : News h₀ env.locals h₁ (ownOf h₀ [s₁.heap.objs.size, l] h₁) := news_ownOf hLf
    have N₂ : News h₀ env.locals h₁ (led ++ ownOf h₀ [s₁.heap.objs.size, l] h₁) := fun p hp => (List.mem_append.mp hp).elim (fun q => N₁ p q) fun q => Nown p q
    refine wpAny_mono (turn t (List.mem_of_getElem? ht) m' h₁ tk₁ dr _ (same k2 F₁) N₂) (fun _ s₂ h₂ => wpAny_mono h₂ (fun f s₃ h₃ => ?_) fun _ _ e => e.elim) fun _ _ e => e.elim
    have fin : FtEnd h₀ env.locals s₁ stored m₀ (led ++ ownOf h₀ [s₁.heap.objs.size, l] h₁) s₃ → ∃ m, m < n + 1 - i ∧ FtInv h₀ env.locals s₁ stored m₀ led (fun i h' => h'.IsListIter s₁.heap.objs.size l i ∧ h'.IsList l (ts.map Value.ref).toArray) n m s₃ := by
      rintro ⟨h₃', tk₃, dr₃, m₂, news₂, rfl, F₃, N₃, a1, b2⟩
      refine ⟨n + 1 - (i + 1), by (first | lia | omega), h₃', tk₃, dr₃, m₂, i + 1, rfl, ?_, F₃, fun p hp => N₃ p (a1 p (List.mem_append_left _ hp)), b2, hlt', rfl⟩
      refine W.frame _ _ _ hst₁ fun b hb o e => ?_
      cases hn : h₀.get? b with
      | some o₀ =>
        have : o₀ = o := by have := F₁.keep b o₀ hn; rw [e] at this; exact (Option.some.inj this).symm
        exact this ▸ F₃.keep b o₀ hn
      | none => exact (N₃ _ (a1 _ (List.mem_append_right _ (mem_ownOf hb hn e)))).1
    cases f with
    | ret v => exact h₃
    | brk => exact h₃
    | cont => exact fin h₃
    | next => exact fin h₃
  · have hin : i = n := by (first | lia | omega)
    subst hin
    refine W.done _ _ _ hst' fun h₁ tk₁ hk₁ => wpAny_execs_nil ?_
    obtain ⟨F₁, N₁⟩ := next h₁ hk₁
    exact done m' h₁ tk₁ dr (same k2 F₁) N₁
end
end Mine
end
section
theorem Mine.reset_L5 : True := by
  w_top off
  exact trivial
open PySem PySem.W PyProof.Rows
set_option maxRecDepth 100000
set_option linter.unusedVariables false
namespace Mine
/-! a dict's keys: a comprehension over them, a for over them; a for over a range whose turns may draw -/
section
variable {prog : Program} {w : World} {A : Around} {E : Value → Shared → Prop} {s : Shared} {h₀ : Heap} {L : Addr} {m : Str → Option Value} {env : Env}
inductive SrcDict (prog : Program) (w : World) (A : Around) (h₀ : Heap) (L : Addr) (m : Str → Option Value) (env : Env) (elt : Expr) (x : Str) (scope : Scope) (cl : List (Str × Addr)) (Fin : Shared → List Value → List (Addr × Obj) → Prop) (xv : Value) (s₁ : Shared) : Prop
  | mk (d : Addr) (od : Obj) (kvs : List (Int × Value)) (news : List (Addr × Obj)) (e : xv = .ref d) (lo : (d == sysModules) = false) (hh : A.handled = none) (F : Fr h₀ L s₁.heap m) (N : News h₀ L s₁.heap news) (hm : (d, od) ∈ news) (hod : od.IsDictOf (intKind prog w) kvs) (hsz : kvs.length ≤ sizeLine)
    (rest : ∀ g, LCg.CompRest prog w A h₀ L m env elt x scope cl { s₁ with heap := g } (fun nw => (d, od) ∈ nw) (fun i v => ∃ k y, kvs[i]? = some (k, y) ∧ (intKind prog w).is k v = true) (Fin { s₁ with heap := g }) kvs.length 0 [] news) : SrcDict prog w A h₀ L m env elt x scope cl Fin xv s₁
theorem SrcDict.intro {elt : Expr} {x : Str} {scope : Scope} {cl : List (Str × Addr)} {Fin : Shared → List Value → List (Addr × Obj) → Prop} {d : Addr} {od : Obj} {kvs : List (Int × Value)} {news : List (Addr × Obj)} {s₁ : Shared}
    (lo : (d == sysModules) = false) (hh : A.handled = none) (F : Fr h₀ L s₁.heap m) (N : News h₀ L s₁.heap news) (hm : (d, od) ∈ news) (hod : od.IsDictOf (intKind prog w) kvs) (hsz : kvs.length ≤ sizeLine)
    (h : ∀ g, LCg.CompRest prog w A h₀ L m env elt x scope cl { s₁ with heap := g } (fun nw => (d, od) ∈ nw) (fun i v => ∃ k y, kvs[i]? = some (k, y) ∧ (intKind prog w).is k v = true) (Fin { s₁ with heap := g }) kvs.length 0 [] news) :
    SrcDict prog w A h₀ L m env elt x scope cl Fin (.ref d) s₁ := ⟨d, od, kvs, news, rfl, lo, hh, F, N, hm, hod, hsz, h⟩
theorem ListComp_dict {elt iter : Expr} {x : Str} {px : Pos} {scope : Scope} {cl : List (Str × Addr)} {pos : Pos} {Q : Value → Shared → Prop} (F₀ : Fr h₀ L s.heap m)
    (hclos : closureFor scope env = pure cl) (hcell : ∀ y ∈ scope.names, y.2 ≠ .cell) (hkind : scope.kind = .function)
    (hnames : ∀ y ∈ scope.names, y.2 = .local → scope.names.lookup y.1 = some .local) (hx : scope.names.lookup x = some .local)
    (h : wpAny (model prog w) A (eval iter env) (SrcDict prog w A h₀ L m env elt x scope cl (fun s₂ => LCg.FinE h₀ L m s₂ Q)) E s)
    (hs : ∀ x, foldedSetIterable iter env x = pure x := by intro _; rfl) :
    wpAny (model prog w) A (eval (.ListComp elt [⟨.Name x px, iter, [], 0⟩] scope pos) env) Q E s := by
  rw [eval_ListComp]
  refine wpAny_comprehension_free (use := none) rfl hs hclos hkind hnames (wpAny_mono h (fun xv s₁ h₁ => ?_) fun _ _ e => e)
  obtain ⟨d, od, kvs, news, rfl, lo, hh, F, N, hm, hod, hsz, R⟩ := h₁
  obtain ⟨es, ep, r⟩ := hod
  have at_ : ∀ h : Heap, h.get? d = some od → h.DictAt (intKind prog w) d kvs ep := fun h e => ⟨od, es, e, r⟩
  have hd := at_ _ (N _ hm).1
  have hlt : d < s₁.heap.objs.size := Heap.lt_size (N _ hm).1
  refine wpAny_pyIter_dict lo hd ?_
  have up : ∀ b o, s₁.heap.get? b = some o → (s₁.heap.push { cls := .type "dict_keyiterator", data := .fields #[.ref d, .int 0 0, .int kvs.length 0, .int ep 0] }).get? b = some o := fun b o e => Heap.get?_push_of_some _ e
  refine LCg.block_U (Walks.dictKeys (knd := intKind prog w) hh s₁.heap.objs.size d (Nat.ne_of_lt hlt) kvs ep) hsz (fun i h st => by obtain ⟨o, e, _⟩ := st.1; exact ⟨o, e⟩)
    (fun i h h' o nw st e e' hk N' hS => ⟨st.1.at fun o' q => by rw [e] at q; cases q; exact e', at_ _ (N' _ hS).1⟩) hcell hkind hx
    ⟨⟨_, Heap.get?_push_size _ rfl, rfl, rfl⟩, at_ _ (up _ _ (N _ hm).1)⟩ (fun b hb => ?_)
    (F.keeps up) (N.grown up) (Nat.ne_of_lt F.ns.lt) (next_is_new F) (fun p hp => Nat.ne_of_lt (Heap.lt_size (N p hp).1)) hm (R _) ?_
  · show b < (s₁.heap.push _).objs.size
    rw [Heap.size_push]
    rcases List.mem_cons.mp hb with rfl | hb
    · exact Nat.lt_succ_self _
    · rw [List.mem_singleton.mp hb]; exact Nat.lt_succ_of_lt hlt
  · intro D C h tk m' ys news' F' N' o1 hns hC₀ hD₀ hCL hDL hCD offC fin
    refine ⟨m', hns, fun h'' hs'' => fin D h'' tk (F'.change hs'' hCL hC₀) (fun p hp => ⟨hs''.extBut _ _ ?_ (N' p hp).1, (N' p hp).2⟩) o1⟩
    rcases List.mem_cons.mp hp with rfl | hp
    · exact Ne.symm hCD
    · exact offC p hp
end
/-- a for over what is walked; the turns may draw; what is walked over may be read in a turn -/
inductive LoopN (prog : Program) (w : World) (A : Around) (h₀ : Heap) (env : Env) (x : Str) (body : List Stmt) (Q : Flow → Shared → Prop) (it : Value) (s : Shared) : Prop
  | mk (I : Addr) (fp : List Addr) (n : Nat) (V : Nat → Value → Prop) (St : Nat → Heap → Prop) (led : List (Addr × Obj)) (stored : List Str) (m₀ : Str → Option Value) (e : it = .ref I) (W : Walks prog w A I fp [I] n V St) (hLf : env.locals ∉ fp) (hI : h₀.get? I = none) (hoff : ∀ p ∈ led, p.1 ≠ I) (hx : stored.contains x = true)
    (hst : St 0 s.heap) (F : Fr h₀ env.locals s.heap m₀) (N : News h₀ env.locals s.heap led)
    (turn : ∀ i v (u : Str → Option Value) h tk dr own, i < n → V i v → Fr h₀ env.locals h (fun y => if y = x then some v else if stored.contains y then u y else m₀ y) → News h₀ env.locals h (led ++ own) →
      wpAny (model prog w) A (execs body env) (FtPost h₀ env.locals s stored m₀ (led ++ own) Q) (fun _ _ => False) { s with heap := h, toks := tk, drawn := dr })
    (done : ∀ (u : Str → Option Value) h tk dr, Fr h₀ env.locals h (fun y => if stored.contains y then u y else m₀ y) → News h₀ env.locals h led → Q .next { s with heap := h, toks := tk, drawn := dr }) :
    LoopN prog w A h₀ env x body Q it s
section
variable {prog : Program} {w : World} {A : Around} {Q : Flow → Shared → Prop} {s : Shared} {env : Env} {h₀ : Heap}
theorem For_N {x : Str} {px pos : Pos} {iter : Expr} {body : List Stmt} (hx : env.kindOf x = some .local)
    (hp : (env.scope.kind == .class || (env.scope.kind == .module && env.locals != env.globals)) = false)
    (h : wpAny (model prog w) A (eval iter env) (fun xv s₁ => wpAny (model prog w) A (pyIter xv) (LoopN prog w A h₀ env x body Q) (fun _ _ => False) s₁) (fun _ _ => False) s)
    (hs : ∀ x, foldedSetIterable iter env x = pure x := by intro _; rfl) :
    wpAny (model prog w) A (exec (.For (.Name x px) iter body [] pos) env) Q (fun _ _ => False) s := by
  refine wpAny_For (wpAny_mono h (fun xv s₁ h₁ => wpAny_mono h₁ (fun it s₂ h₂ => ?_) fun _ _ e => e) fun _ _ e => e) hs
  obtain ⟨I, fp, n, V, St, led, stored, m₀, rfl, W, hLf, hI, hoff, hst0, hst, F, N, turn, done⟩ := h₂
  have same : ∀ {h : Heap} {m' : Str → Option Value}, (∀ z, stored.contains z = false → m' z = m₀ z) → m' = (fun z => if stored.contains z then m' z else m₀ z) := fun {h m'} hz => funext fun z => by
    cases hc : stored.contains z with
    | true => rfl
    | false => exact hz z hc
  refine codeAny_forLoop
    (FtInv h₀ env.locals s₂ stored m₀ led St n) ?_ (n + 1)
    ⟨s₂.heap, s₂.toks, s₂.drawn, m₀, 0, rfl, hst, F, N, fun _ _ => rfl, Nat.zero_le _, rfl⟩
  rintro k s' ⟨h', tk, dr, m', i, rfl, hst', F', N', k2, hi, rfl⟩
  have next : ∀ h₁ : Heap, (∀ b o, b ∉ [I] → h'.get? b = some o → h₁.get? b = some o) → Fr h₀ env.locals h₁ m' ∧ News h₀ env.locals h₁ led := fun h₁ hk₁ =>
    ⟨⟨F'.ns.at' fun o e => hk₁ _ o (fun hm => hLf (W.sub _ hm)) e, fun b o e => hk₁ b o (fun hb => by rw [List.mem_singleton.mp hb, hI] at e; cases e) (F'.keep b o e), F'.above⟩, fun p hp => ⟨hk₁ _ _ (fun hm => hoff p hp (List.mem_singleton.mp hm)) (N' p hp).1, (N' p hp).2⟩⟩
  by_cases hlt' : i < n
  · refine W.item i _ _ _ hlt' hst' fun v h₁ tk₁ hV hst₁ hk₁ => ?_
    obtain ⟨F₁, N₁⟩ := next h₁ hk₁
    refine wpAny_assign_Name (wpAny_storeName_local hx F₁.ns (fun h₂ hn₂ hs₂ => ?_) hp)
    have F₂ := F₁.set hn₂ hs₂
    rw [same (h := h₂) k2] at F₂
    have Nown : News h₀ env.locals h₂ (ownOf h₀ fp h₂) := news_ownOf hLf
    have N₂ : News h₀ env.locals h₂ (led ++ ownOf h₀ fp h₂) := fun p hp => (List.mem_append.mp hp).elim (fun q => (N₁.set hs₂) p q) fun q => Nown p q
    refine wpAny_mono (turn i v m' h₂ _ _ _ hlt' hV F₂ N₂) (fun f s₃ h₃ => ?_) fun _ _ e => e.elim
    have fin : FtEnd h₀ env.locals s₂ stored m₀ (led ++ ownOf h₀ fp h₂) s₃ → ∃ m, m < n + 1 - i ∧ FtInv h₀ env.locals s₂ stored m₀ led St n m s₃ := by
      rintro ⟨h₃', tk₃, dr₃, m₂, news₂, rfl, F₃, N₃, a1, b2⟩
      refine ⟨n + 1 - (i + 1), by (first | lia | omega), h₃', tk₃, dr₃, m₂, i + 1, rfl, ?_, F₃, fun p hp => N₃ p (a1 p (List.mem_append_left _ hp)), b2, hlt', rfl⟩
      refine W.frame _ _ _ hst₁ fun b hb o e => ?_
      have e₂ : h₂.get? b = some o := (hs₂.2 b fun q => hLf (q ▸ hb)).trans e
      cases hn : h₀.get? b with
      | some o₀ =>
        have : o₀ = o := by have := F₂.keep b o₀ hn; rw [e₂] at this; exact (Option.some.inj this).symm
        exact this ▸ F₃.keep b o₀ hn
      | none => exact (N₃ _ (a1 _ (List.mem_append_right _ (mem_ownOf hb hn e₂)))).1
    cases f with
    | ret v => exact h₃
    | brk => exact h₃
    | cont => exact fin h₃
    | next => exact fin h₃
  · have hin : i = n := by (first | lia | omega)
    subst hin
    refine W.done _ _ _ hst' fun h₁ tk₁ hk₁ => wpAny_execs_nil ?_
    obtain ⟨F₁, N₁⟩ := next h₁ hk₁
    rw [same (h := h₁) k2] at F₁
    exact done m' h₁ tk₁ dr F₁ N₁
theorem loopN_range {x : Str} {body : List Stmt} {m₀ : Str → Option Value} {r : Addr} {a b : Int} {t₀ u₀ v₀ : Tok} {n : Nat} (led : List (Addr × Obj)) (stored : List Str)
    (hh : A.handled = none) (hr : IsRange s.heap r a b 1 t₀ u₀ v₀) (hsm : Builtin.Range.small a b 1 = true) (hn : Builtin.Range.rangeSize a b 1 = (n : Int)) (F : Fr h₀ env.locals s.heap m₀) (N : News h₀ env.locals s.heap led) (hx : stored.contains x = true)
    (turn : ∀ (i : Nat) t (s₁ : Shared) (u : Str → Option Value) h tk dr own, s₁.gens = s.gens → s₁.os = s.os → i < n → Fr h₀ env.locals h (fun y => if y = x then some (.int (a + (i : Int)) t) else if stored.contains y then u y else m₀ y) → News h₀ env.locals h (led ++ own) →
      wpAny (model prog w) A (execs body env) (FtPost h₀ env.locals s₁ stored m₀ (led ++ own) Q) (fun _ _ => False) { s₁ with heap := h, toks := tk, drawn := dr })
    (done : ∀ (s₁ : Shared) (u : Str → Option Value) h tk dr, s₁.gens = s.gens → s₁.os = s.os → Fr h₀ env.locals h (fun y => if stored.contains y then u y else m₀ y) → News h₀ env.locals h led → Q .next { s₁ with heap := h, toks := tk, drawn := dr }) :
    wpAny (model prog w) A (pyIter (.ref r)) (LoopN prog w A h₀ env x body Q) (fun _ _ => False) s := by
  refine wpAny_pyIter_range hr hsm ?_
  refine ⟨s.heap.objs.size, _, n, _, _, led, stored, m₀, rfl, Walks.range hh s.heap.objs.size a 1 n, ?_, next_is_new F, ?_, hx, (by show IsRangeIter _ _ _ _ _; rw [hn]; simpa using Heap.get?_push_size _ rfl), F.push _, (fun p hp => ⟨Heap.get?_push_of_some _ (N p hp).1, (N p hp).2⟩), ?_, ?_⟩
  · intro hm
    exact absurd F.ns.lt ((List.mem_singleton.mp hm) ▸ Nat.lt_irrefl _)
  · intro p hp hI
    exact absurd (Heap.lt_size (N p hp).1) (hI ▸ Nat.lt_irrefl _)
  · rintro i v u h tk dr own hi ⟨t, rfl⟩ F1 N1
    have e : a + (i : Int) * 1 = a + (i : Int) := by (first | lia | omega)
    rw [e] at F1
    exact turn i t _ u h tk dr own rfl rfl hi F1 N1
  · intro u h tk dr F1 N1
    exact done _ u h tk dr rfl rfl F1 N1
theorem loopN_dict {x : Str} {body : List Stmt} {m₀ : Str → Option Value} {d : Addr} {od : Obj} {kvs : List (Int × Value)} (led : List (Addr × Obj)) (stored : List Str)
    (lo : (d == sysModules) = false) (hh : A.handled = none) (F : Fr h₀ env.locals s.heap m₀) (N : News h₀ env.locals s.heap led) (hm : (d, od) ∈ led) (hod : od.IsDictOf (intKind prog w) kvs) (hx : stored.contains x = true)
    (turn : ∀ (i : Nat) (k : Int) v y (s₁ : Shared) (u : Str → Option Value) h tk dr own, s₁.gens = s.gens → s₁.os = s.os → kvs[i]? = some (k, y) → (intKind prog w).is k v = true → Fr h₀ env.locals h (fun y => if y = x then some v else if stored.contains y then u y else m₀ y) → News h₀ env.locals h (led ++ own) →
      wpAny (model prog w) A (execs body env) (FtPost h₀ env.locals s₁ stored m₀ (led ++ own) Q) (fun _ _ => False) { s₁ with heap := h, toks := tk, drawn := dr })
    (done : ∀ (s₁ : Shared) (u : Str → Option Value) h tk dr, s₁.gens = s.gens → s₁.os = s.os → Fr h₀ env.locals h (fun y => if stored.contains y then u y else m₀ y) → News h₀ env.locals h led → Q .next { s₁ with heap := h, toks := tk, drawn := dr }) :
    wpAny (model prog w) A (pyIter (.ref d)) (LoopN prog w A h₀ env x body Q) (fun _ _ => False) s := by
  obtain ⟨es, ep, r⟩ := hod
  have at_ : ∀ h : Heap, h.get? d = some od → h.DictAt (intKind prog w) d kvs ep := fun h e => ⟨od, es, e, r⟩
  have hd := at_ _ (N _ hm).1
  have hlt : d < s.heap.objs.size := Heap.lt_size (N _ hm).1
  refine wpAny_pyIter_dict lo hd ?_
  refine ⟨s.heap.objs.size, _, kvs.length, _, _, led, stored, m₀, rfl, Walks.dictKeys (knd := intKind prog w) hh s.heap.objs.size d (Nat.ne_of_lt hlt) kvs ep, ?_, next_is_new F, ?_, hx,
    ⟨⟨_, Heap.get?_push_size _ rfl, rfl, rfl⟩, at_ _ (Heap.get?_push_of_some _ (N _ hm).1)⟩, F.push _, (fun p hp => ⟨Heap.get?_push_of_some _ (N p hp).1, (N p hp).2⟩), ?_, ?_⟩
  · intro hm'
    rcases List.mem_cons.mp hm' with e | hm'
    · exact absurd F.ns.lt (by rw [e]; exact Nat.lt_irrefl _)
    · exact (N _ hm).2.1 (List.mem_singleton.mp hm').symm
  · intro p hp hI
    exact absurd (Heap.lt_size (N p hp).1) (hI ▸ Nat.lt_irrefl _)
  · rintro i v u h tk dr own hi ⟨k, y, hk, hv⟩ F1 N1
    exact turn i k v y _ u h tk dr own rfl rfl hk hv F1 N1
  · intro u h tk dr F1 N1
    exact done _ u h tk dr rfl rfl F1 N1
end
end Mine
end
section
theorem Mine.reset_T1 : True := by
  w_top off
  exact trivial
open PySem PySem.W PyProof.Rows
set_option maxRecDepth 100000
set_option linter.unusedVariables false
namespace Mine
/-! sets of ints: their entries, whether their places are known (led), what pop takes -/
abbrev byText (w : World) : Bool := w.params.followText "set-order"
noncomputable def ent (p : Int × Tok) : Int × Value := (hashInt p.1, .int p.1 p.2)
noncomputable def unent (e : Int × Value) : Int × Tok := match e.2 with | .int k t => (k, t) | _ => (0, 0)
theorem unent_ent (p : Int × Tok) : unent (ent p) = p := rfl

theorem perm_ents {es : List (Int × Value)} {l : List (Int × Tok)} (h : es.Perm (l.map ent)) : ∃ l' : List (Int × Tok), es = l'.map ent ∧ l'.Perm l := by
  refine ⟨es.map unent, ?_, ?_⟩
  · rw [List.map_map]
    have : es.map (ent ∘ unent) = es.map id := by
      apply List.map_congr_left
      intro e he
      obtain ⟨p, _, rfl⟩ := List.mem_map.mp (h.mem_iff.mp he)
      rfl
    rw [this, List.map_id]
  · have h2 := h.map unent
    rw [List.map_map] at h2
    have : l.map (unent ∘ ent) = l.map id := List.map_congr_left fun p _ => rfl
    rw [this, List.map_id] at h2
    exact h2

/-- a set that holds the ints of l in this order; R holds of its table -/
structure SetG (R : SetTable → Prop) (w : World) (o : Obj) (l : List (Int × Tok)) : Prop where
  ex : o.ExactSet
  dat : ∃ ep t, o.data = .set (l.map ent).toArray ep t ∧ t.fits l.length = true ∧ (byText w = false → t.led = true) ∧ R t
  nd : (l.map (·.1)).Nodup

section
variable {prog : Program} {w : World} {R : SetTable → Prop} {o : Obj} {l : List (Int × Tok)}
theorem ents_of (prog : Program) (w : World) (l : List (Int × Tok)) : ElemsOf (intKind prog w) (l.map ent) := by
  intro e he
  obtain ⟨p, _, rfl⟩ := List.mem_map.mp he
  exact ⟨⟨p.1, intKind_is _ _ _ _, rfl⟩, rfl⟩
theorem is_ent {k : Int} {p : Int × Tok} : (intKind prog w).is k (ent p).2 = true ↔ k = p.1 := by
  exact ⟨fun h => (intKind prog w).inj _ _ _ h (intKind_is prog w p.1 p.2), fun e => by rw [e]; exact intKind_is _ _ _ _⟩
theorem SetG.objOf (h : SetG R w o l) : o.SetObjOf (intKind prog w) (fun k => decide (k ∈ l.map (·.1))) l.length := by
  obtain ⟨hex, ⟨ep, t, hd, hf, _, _⟩, _⟩ := h
  refine ⟨hex, _, ep, t, hd, by simpa using ents_of prog w l, fun k => ?_, by simp, by simpa using hf⟩
  rw [decide_eq_true_eq]
  constructor
  · intro hk
    obtain ⟨p, hp, rfl⟩ := List.mem_map.mp hk
    exact ⟨ent p, by simpa using ⟨p.1, p.2, hp, rfl⟩, is_ent.mpr rfl⟩
  · rintro ⟨e, he, hq⟩
    obtain ⟨p, hp, rfl⟩ := List.mem_map.mp (show e ∈ l.map ent from List.mem_toArray.mp (by simpa using he))
    rw [is_ent.mp hq]
    exact List.mem_map_of_mem hp
end

theorem layNew_led (t : SetTable) (es : Array (Int × Value)) (h : Int) (x : Value) : (layNew t es h x).2.1.led = t.led := by
  unfold layNew
  split
  · dsimp only
    unfold SetTable.orStandIn
    split <;> rfl
  · rfl
theorem laid_led {mask finger moves : Nat} {led plain : Bool} {hs : Array Int} {t : SetTable} {o : Array Nat} (h : SetTable.laid mask finger moves led plain hs = some (t, o)) : t.led = led ∧ t.plain = plain := by
  unfold SetTable.laid at h
  cases hc : SetTable.layClean mask hs with
  | none => rw [hc] at h; cases h
  | some ow =>
    rw [hc] at h
    cases h
    exact ⟨rfl, rfl⟩
theorem relayAll_led (t : SetTable) (es : Array (Int × Value)) (n : Nat) : (relayAll t es n).2.1.led = t.led := by
  unfold relayAll
  split
  · rename_i t' order he
    dsimp only
    split
    · exact (laid_led he).1
    · rfl
  · rfl
theorem relayAll_plain (t : SetTable) (es : Array (Int × Value)) (n : Nat) (hp : t.plain = false) : (relayAll t es n).2.1.plain = false := by
  unfold relayAll
  split
  · rename_i t' order he
    dsimp only
    split
    · rw [(laid_led he).2]; exact hp
    · rfl
  · rfl

/-- what an add of a new int makes of entries and table -/
noncomputable def addTab (t : SetTable) (es : Array (Int × Value)) (h : Int) (x : Value) : Array (Int × Value) × SetTable :=
  if (!(layNew t es h x).2.2.1 && (layNew t es h x).2.1.tooFull) = true then
    ((relayAll (layNew t es h x).2.1 (layNew t es h x).1 (SetTable.grown (layNew t es h x).1.size)).1, (relayAll (layNew t es h x).2.1 (layNew t es h x).1 (SetTable.grown (layNew t es h x).1.size)).2.1)
  else ((layNew t es h x).1, (layNew t es h x).2.1)

theorem wpAny_chooseD {prog : Program} {w : World} {A : Around} {E : Value → Shared → Prop} {s : Shared} {src : Source} {n : Nat} {Q : Nat → Shared → Prop} (hn : n ≠ 0)
    (h : ∀ i dr, i < n → Q i { s with drawn := dr }) : wpAny (model prog w) A (choose src n) Q E s :=
  fun Γ p hΓ => ⟨hn, h _ _ (Nat.mod_lt _ (Nat.pos_of_ne_zero hn))⟩

section
variable {prog : Program} {w : World} {A : Around} {E : Value → Shared → Prop} {s : Shared} {a : Addr} {o : Obj} {l : List (Int × Tok)} {R : SetTable → Prop} {k : Int} {tk : Tok}

theorem SetG.store {h : Heap} {es es' : Array (Int × Value)} {ep : Nat} {t t' : SetTable} (ho : h.get? a = some o) (hex : o.ExactSet) (hd : o.data = .set es ep t) :
    (h.update a (Obj.putSet es' t')).get? a = some { o with data := .set es' (ep + 1) t' } := by
  have := Heap.get?_update_self (Obj.putSet es' t') ho (by rw [putSet_of es' t' hd]; rfl)
  rw [putSet_of es' t' hd] at this; exact this

theorem addHashed_old {Q : Bool → Shared → Prop} (ho : s.heap.get? a = some o) (hs : SetG R w o l) (hb : l.length < 1000) (hk : k ∈ l.map (·.1)) (h : Q false s) :
    wpAny (model prog w) A (setAddHashed a (.int k tk) (hashInt k)) Q E s := by
  have h1 := (hs.objOf (prog := prog)).setOf ho (by unfold scanBound; (first | lia | omega))
  obtain ⟨hex, ⟨ep, t, hd, hf, hled, hR⟩, hnd⟩ := hs
  have hel := ents_of prog w l
  have hfs : t.fits (l.map ent).toArray.size = true := by simpa using hf
  unfold setAddHashed setAddHashedIn
  refine wpAny_holding (wpAny_bind (wpAny_setState_of ho hd hfs ?_))
  dsimp only
  rw [byScan_of (knd := intKind prog w) rfl (by unfold scanBound; simp; (first | lia | omega)) (by simpa using hel)]
  simp only [↓reduceIte]
  unfold setAddByScan
  refine wpAny_bind ?_
  refine wpAny_bind (wpAny_rule ?_)
  refine wpAny_bind (wpAny_setScan_of (knd := intKind prog w) (k := k) (intKind_is _ _ _ _) ho hd hfs (by simpa using hel) ?_)
  cases hr : List.findIdx? (fun e => (intKind prog w).is k e.2) (l.map ent).toArray.toList with
  | some j => exact wpAny_pure (wpAny_pure h)
  | none =>
    exfalso
    obtain ⟨p, hp, rfl⟩ := List.mem_map.mp hk
    have := List.findIdx?_eq_none_iff.mp hr (ent p) (by simpa using ⟨p.1, p.2, hp, rfl⟩)
    rw [is_ent.mpr rfl] at this
    cases this

theorem addHashed_new {Q : Bool → Shared → Prop} (ho : s.heap.get? a = some o) (hs : SetG R w o l) (hb : l.length < 1000) (hk : k ∉ l.map (·.1))
    (hR : ∀ t, R t → t.fits l.length = true → R (addTab t (l.map ent).toArray (hashInt k) (.int k tk)).2)
    (h : ∀ h' o' l', Heap.SameBut a s.heap h' → h'.get? a = some o' → l'.Perm (l ++ [(k, tk)]) → SetG R w o' l' → Q true { s with heap := h' }) :
    wpAny (model prog w) A (setAddHashed a (.int k tk) (hashInt k)) Q E s := by
  obtain ⟨hex, ⟨ep, t, hd, hf, hled, hRt⟩, hnd⟩ := hs
  have hel := ents_of prog w l
  have hfs : t.fits (l.map ent).toArray.size = true := by simpa using hf
  have hR' := hR t hRt hf
  unfold setAddHashed setAddHashedIn
  refine wpAny_holding (wpAny_bind (wpAny_setState_of ho hd hfs ?_))
  dsimp only
  rw [byScan_of (knd := intKind prog w) rfl (by unfold scanBound; simp; (first | lia | omega)) (by simpa using hel)]
  simp only [↓reduceIte]
  unfold setAddByScan
  refine wpAny_bind ?_
  refine wpAny_bind (wpAny_rule ?_)
  refine wpAny_bind (wpAny_setScan_of (knd := intKind prog w) (k := k) (intKind_is _ _ _ _) ho hd hfs (by simpa using hel) ?_)
  cases hr : List.findIdx? (fun e => (intKind prog w).is k e.2) (l.map ent).toArray.toList with
  | some j =>
    exfalso
    obtain ⟨hj, hpj, _⟩ := List.findIdx?_eq_some_iff_getElem.mp hr
    have hm := List.getElem_mem hj
    obtain ⟨p, hp, e⟩ := List.mem_map.mp (show (l.map ent).toArray.toList[j] ∈ l.map ent by simpa using hm)
    rw [← e] at hpj
    exact hk (by rw [is_ent.mp hpj]; exact List.mem_map_of_mem hp)
  | none =>
    dsimp only
    have hperm := layNew_perm t (l.map ent).toArray (hashInt k) (.int k tk)
    have hfits := layNew_fits t (l.map ent).toArray (hashInt k) (.int k tk)
    have hl1 := layNew_led t (l.map ent).toArray (hashInt k) (.int k tk)
    unfold addTab at hR'
    generalize hL : layNew t (l.map ent).toArray (hashInt k) (.int k tk) = LL at hperm hfits hl1 hR' ⊢
    obtain ⟨es1, t1, wasDummy, gave⟩ := LL
    dsimp only at hperm hfits hl1 hR' ⊢
    have hp1 : es1.toList.Perm ((l ++ [(k, tk)]).map ent) := by
      rw [Array.toList_push] at hperm
      rw [List.map_append]
      simpa [ent] using hperm
    obtain ⟨l1, e1, p1⟩ := perm_ents hp1
    have hn1 : (l1.map (·.1)).Nodup := by
      refine ((p1.map _).nodup_iff).mpr ?_
      rw [List.map_append, List.nodup_append]
      refine ⟨hnd, by simp, ?_⟩
      intro x hx y hy e
      have hy' : y = k := by simpa using hy
      subst e
      exact hk (hy' ▸ hx)
    have hs1 : es1.size = l1.length := by rw [← Array.length_toList, e1, List.length_map]
    have hlen : l1.length = l.length + 1 := by rw [p1.length_eq, List.length_append]; rfl
    have he1 : es1 = (l1.map ent).toArray := by rw [← e1]
    have hled1 : byText w = false → t1.led = true := fun q => by rw [hl1]; exact hled q
    have gw : ∀ (b : Bool) {s₁ : Shared} {Q' : Unit → Shared → Prop}, Q' () s₁ → wpAny (model prog w) A (match b with | true => rule "set.scan.the-table-gave-way" | false => pure ()) Q' E s₁ :=
      fun b s₁ Q' hq => by cases b <;> first | exact wpAny_pure hq | exact wpAny_rule hq
    refine wpAny_bind (gw _ ?_)
    have core : wpAny (model prog w) A (do
        storeSet a es1 t1
        if (!wasDummy && t1.tooFull) = true then do
            (match (relayAll t1 es1 (SetTable.grown es1.size)).2.2 with | true => rule "set.scan.the-table-gave-way" | false => pure ())
            storeSet a (relayAll t1 es1 (SetTable.grown es1.size)).1 (relayAll t1 es1 (SetTable.grown es1.size)).2.1
            pure (some true)
          else pure (some true)) (fun r s' => r = some true ∧ Q true s') E s := by
      refine wpAny_bind (wpAny_storeSet_of ho hd ?_ (by rw [hs1, sizeLine_eq]; (first | lia | omega)))
      have ho1 := SetG.store (es' := es1) (t' := t1) ho hex hd
      have sb1 := Heap.SameBut.update s.heap a (Obj.putSet es1 t1)
      by_cases hc : (!wasDummy && t1.tooFull) = true
      · rw [if_pos hc]
        rw [if_pos hc] at hR'
        have hp2 := relayAll_perm t1 es1 (SetTable.grown es1.size)
        have hf2 := relayAll_fits t1 es1 (SetTable.grown es1.size)
        have hl2 := relayAll_led t1 es1 (SetTable.grown es1.size)
        generalize hRl : relayAll t1 es1 (SetTable.grown es1.size) = RL at hp2 hf2 hl2 hR' ⊢
        obtain ⟨es2, t2, gave2⟩ := RL
        dsimp only at hp2 hf2 hl2 hR' ⊢
        rw [e1] at hp2
        obtain ⟨l2, e2, p2⟩ := perm_ents hp2
        have he2 : es2 = (l2.map ent).toArray := by rw [← e2]
        have hs2 : es2.size = l2.length := by rw [← Array.length_toList, e2, List.length_map]
        refine wpAny_bind (gw _ ?_)
        refine wpAny_bind (wpAny_storeSet_of ho1 rfl ?_ (by rw [hs2, p2.length_eq, sizeLine_eq]; (first | lia | omega)))
        have ho2 := SetG.store (es' := es2) (t' := t2) ho1 (by exact hex) rfl
        have sb2 := sb1.trans (Heap.SameBut.update _ a (Obj.putSet es2 t2))
        refine wpAny_pure ⟨rfl, h _ _ l2 sb2 ho2 (p2.trans p1) ⟨hex, ⟨_, t2, by rw [he2], by rw [← hs2]; exact hf2, fun q => by rw [hl2]; exact hled1 q, hR'⟩, ((p2.map _).nodup_iff).mpr hn1⟩⟩
      · rw [if_neg hc]
        rw [if_neg hc] at hR'
        exact wpAny_pure ⟨rfl, h _ _ l1 sb1 ho1 p1 ⟨hex, ⟨_, t1, by rw [he1], by rw [← hs1]; exact hfits, hled1, hR'⟩, hn1⟩⟩
    split
    · refine wpAny_bind ?_
      rw [hashByValue_scannable 8 rfl]
      refine wpAny_pure ?_
      refine wpAny_mono core (fun r s' hr => ?_) fun _ _ e => e
      obtain ⟨rfl, hq⟩ := hr
      exact wpAny_pure hq
    · refine wpAny_bind (wpAny_pure ?_)
      refine wpAny_mono core (fun r s' hr => ?_) fun _ _ e => e
      obtain ⟨rfl, hq⟩ := hr
      exact wpAny_pure hq
end
end Mine
end
section
theorem Mine.reset_T2a : True := by
  w_top off
  exact trivial
open PySem PySem.W PyProof.Rows
set_option maxRecDepth 100000
set_option linter.unusedVariables false
namespace Mine
abbrev emptySet (w : World) : Obj := { cls := .type "set", dict := none, data := .set #[] 0 (.fresh 0 0 (!byText w)) }
theorem SetG.empty {R : SetTable → Prop} {w : World} (hR : R (.fresh 0 0 (!byText w))) : SetG R w (emptySet w) [] :=
  ⟨⟨rfl, rfl, rfl⟩, ⟨0, _, rfl, rfl, fun q => by show (!byText w) = true; rw [q]; rfl, hR⟩, List.nodup_nil⟩

section
variable {prog : Program} {w : World} {A : Around} {E : Value → Shared → Prop} {s : Shared}
theorem newSet_led {Q : Value → Shared → Prop} (h : Q (.ref s.heap.objs.size) { s with heap := s.heap.push (emptySet w) }) :
    wpAny (model prog w) A (newSet (.type "set")) Q E s := by
  unfold newSet setsByText
  refine wpAny_bind (wpAny_bind (wpAny_askSetting (wpAny_pure ?_)))
  dsimp only
  simp only [newObj]
  exact wpAny_bind (wpAny_alloc (wpAny_pure h))

theorem code_set_led {Q₁ : Value → Shared → Prop} (h : Q₁ (.ref s.heap.objs.size) { s with heap := s.heap.push (emptySet w) }) :
    codeAny (model prog w) A (.call (.builtin "set.__new__") ⟨[.type "set"], []⟩) (wants Q₁ E) s := by
  refine codeAny_of_tree ?_
  show wpAny _ A.in1 (do checkBuiltinCall "set.__new__" ⟨[.type "set"], []⟩; again (.builtin "set.__new__" ⟨[.type "set"], []⟩)) _ _ s
  refine wpAny_bind (wpAny_of_eq F.newCall_set_0 (wpAny_pure ⟨plainId_quiet F.plain_set_new _, codeAny_builtin F.entry_set_new ?_⟩))
  rw [Around.under_plainId F.plain_set_new _]
  unfold Builtin.«set.__new__» Builtin.Frozenset.newClass
  have hsub := sub_set_self
  obtain ⟨hp, g, d, tk, os⟩ := s
  dsimp only
  wp_walk
  refine wpAny_askSetting (wpAny_pure ?_)
  dsimp only
  simp only [newObj]
  refine wpAny_bind (wpAny_alloc (wpAny_pure ?_))
  exact wpAny_pure h

set_option maxHeartbeats 1000000 in
theorem call_set_led {Q : Value → Shared → Prop} (h : Q (.ref s.heap.objs.size) { s with heap := s.heap.push (emptySet w) }) :
    wpAny (model prog w) A (call (.type "set") []) Q E s := by
  obtain ⟨c, tl, hmro⟩ := F.called_set.mro
  have hmade := F.called_set.made
  have hsub := F.called_set.sub
  refine wpAny_call (codeAny_of_tree ?_)
  show wpAny _ _ (callAny (.type "set") _) _ _ _
  refine wpAny_pure ⟨Code.quiet_builtin _ (by decide +kernel), codeAny_builtin F.entry_type_call ?_⟩
  rw [Around.under_plain (weight_type_call_type "set" [] []) rfl]
  have h1 := F.called_set.notType
  have h2 := F.called_set.canCreate
  have hct := F.typeCall_set_0
  repeat (any_goals (first | assumption | wp_step))
  refine codeAny_mono (code_set_led (E := E) (Q₁ := fun obj s₁ => obj = .ref s.heap.objs.size ∧ s₁ = { s with heap := s.heap.push (emptySet w) }) ⟨rfl, rfl⟩) fun r s₁ hr => ?_
  cases r with
  | error e => exact hr
  | ok fl =>
    cases fl with
    | ret obj =>
      obtain ⟨rfl, rfl⟩ := hr
      have hS : (s.heap.push (emptySet w)).get? s.heap.objs.size = some (emptySet w) := Heap.get?_push_size _ rfl
      have hT : Shared.TypeIs { s with heap := s.heap.push (emptySet w) } (.ref s.heap.objs.size) "set" := ⟨_, hS, rfl⟩
      have hli := F.called_set.init.lookup
      have hbi := F.called_set.init.bind (.ref s.heap.objs.size)
      repeat (any_goals (first | assumption | wp_step))
      refine codeAny_mono (codeAny_call_builtin (R := wants (fun r s₂ => r = .none ∧ Q (.ref s.heap.objs.size) s₂) E) F.called_set.init.plain F.entry_set_init (check_set_init hT ?_)) fun r₂ s₂ hr₂ => ?_
      · unfold Builtin.«set.__init__» noKeywords
        wp_walk
        exact ⟨rfl, h⟩
      · cases r₂ with
        | error e => exact hr₂
        | ok fl₂ =>
          cases fl₂ with
          | ret r =>
            obtain ⟨rfl, hq⟩ := hr₂
            repeat (any_goals (first | assumption | wp_step))
          | _ => exact hr₂.elim
    | _ => exact hr.elim
end

end Mine
end
section
theorem Mine.reset_T2 : True := by
  w_top off
  exact trivial
open PySem PySem.W PyProof.Rows
set_option maxRecDepth 100000
set_option linter.unusedVariables false
namespace Mine
section
variable {prog : Program} {w : World} {A : Around} {E : Value → Shared → Prop} {s : Shared} {h₀ : Heap} {L sa : Addr} {m : Str → Option Value} {news : List (Addr × Obj)} {g : Obj → List (Addr × Obj)} {so : Obj} {R : SetTable → Prop} {l : List (Int × Tok)} {k : Int} {tk : Tok}

theorem set_new {Q : Value → Shared → Prop} (F : Fr h₀ L s.heap m) (N : News h₀ L s.heap news)
    (h : ∀ D h', Fr h₀ L h' m → News h₀ L h' ((D, emptySet w) :: news) → (∀ p ∈ news, p.1 < D) → Q (.ref D) { s with heap := h' }) :
    wpAny (model prog w) A (call (.type "set") []) Q E s :=
  call_set_led (h _ _ (F.push _) (N.push F _ rfl) fun p hp => Heap.lt_size (N p hp).1)

/-- what stands behind the one element of a set display -/
inductive OneIn (R : SetTable → Prop) (w : World) (h₀ : Heap) (L D : Addr) (Q : Value → Shared → Prop) (v : Value) (s' : Shared) : Prop
  | mk (k : Int) (tk : Tok) (m' : Str → Option Value) (news' : List (Addr × Obj)) (e : v = .int k tk) (F : Fr h₀ L s'.heap m') (N : News h₀ L s'.heap ((D, emptySet w) :: news')) (off : ∀ p ∈ news', p.1 ≠ D)
    (h : ∀ h'' so, Fr h₀ L h'' m' → News h₀ L h'' ((D, so) :: news') → SetG R w so [(k, tk)] → Q (.ref D) { s' with heap := h'', toks := s'.toks + 1 }) : OneIn R w h₀ L D Q v s'
theorem OneIn.intro {R : SetTable → Prop} {w : World} {h₀ : Heap} {L D : Addr} {Q : Value → Shared → Prop} {s' : Shared} {k : Int} {tk : Tok} {m' : Str → Option Value} {news' : List (Addr × Obj)}
    (F : Fr h₀ L s'.heap m') (N : News h₀ L s'.heap ((D, emptySet w) :: news')) (off : ∀ p ∈ news', p.1 ≠ D)
    (h : ∀ h'' so, Fr h₀ L h'' m' → News h₀ L h'' ((D, so) :: news') → SetG R w so [(k, tk)] → Q (.ref D) { s' with heap := h'', toks := s'.toks + 1 }) :
    OneIn R w h₀ L D Q (.int k tk) s' := ⟨k, tk, m', news', rfl, F, N, off, h⟩
/-- the display of one set element -/
theorem set_one {K : Frag} {e : PySem.Expr} {kk : Nat} {pos : Pos} {env : Env} {Q : Value → Shared → Prop} (F : Fr h₀ L s.heap m) (N : News h₀ L s.heap news) (X : K.In h₀) (hc : kdsCode K env.code = true)
    (hroad : displayRoad kk [e] = .oneByOne) (hp : kdsPlain e = true) (hR : R (.fresh 0 0 (!byText w))) (hR2 : ∀ k tk t, R t → t.fits 0 = true → R (addTab t #[] (hashInt k) (.int k tk)).2)
    (h : ∀ D h', Fr h₀ L h' m → News h₀ L h' ((D, emptySet w) :: news) → (∀ p ∈ news, p.1 < D) →
      wpAny (model prog w) A (eval e env) (fun v s' => OneIn R w h₀ L D Q v s') E { s with heap := h' }) :
    wpAny (model prog w) A (eval (.Set [e] kk pos) env) Q E s := by
  rw [arm_eval_Set]
  refine wpAny_bind (wpAny_standAt ?_)
  refine wpAny_bind (kds_main (X.keeps F.keep) hc fun b => ?_)
  rw [kds_star [e] (by simp [hp]), List.map_map]
  rw [hroad]
  unfold setDisplay
  rw [if_neg (by decide)]
  refine wpAny_bind (newSet_led ?_)
  rw [arm_evalEach_cons]
  have hnil : evalEach [] env = [] := rfl
  rw [hnil]
  show wpAny (model prog w) A (do
      holding [.ref s.heap.objs.size] (do
        let first ← evalAll [(do let v ← eval e env; standAt pos; pure v)]
        holding first (do
          for x in first do let _ ← setAdd s.heap.objs.size x
          pure ())
        pure ())
      pure (Value.ref s.heap.objs.size)) Q E _
  refine wpAny_bind (wpAny_holding ?_)
  have h1 := h _ _ (F.push (emptySet w)) (N.push F (emptySet w) rfl) (fun p hp => Heap.lt_size (N p hp).1)
  show wpAny (model prog w) A (((eval e env >>= fun v => standAt pos >>= fun _ => pure v) >>= fun v => holding [v] (evalAll []) >>= fun r => pure (v :: r)) >>= _) _ _ _
  refine wpAny_bind (wpAny_bind (wpAny_bind (wpAny_mono h1 (fun v s' hv => ?_) fun _ _ x => x)))
  refine wpAny_bind (wpAny_standAt (wpAny_pure ?_))
  refine wpAny_bind (wpAny_holding (wpAny_pure (wpAny_pure ?_)))
  obtain ⟨k, tk, m', news', rfl, F', N', off, hq⟩ := hv
  refine wpAny_bind (wpAny_holding ?_)
  refine wpAny_bind ?_
  rw [List.forIn_cons]
  have hm := N' (s.heap.objs.size, emptySet w) (.head _)
  refine wpAny_bind ?_
  refine wpAny_bind ?_
  unfold setAdd
  refine wpAny_holding (wpAny_bind ((intKind prog w).pyHash (intKind_is _ _ k tk) ?_))
  refine addHashed_new (s := { s' with toks := s'.toks + 1 }) (R := R) hm.1 (SetG.empty hR) (by decide) (by simp) (fun t ht hf => hR2 k tk t ht hf) ?_
  intro h'' o' l' sb ho' hp' hs'
  have hl : l' = [(k, tk)] := by simpa using hp'.eq_singleton
  subst hl
  refine wpAny_pure ?_
  dsimp only
  rw [List.forIn_nil]
  refine wpAny_pure (wpAny_pure (wpAny_pure (wpAny_pure ?_)))
  refine hq h'' o' (F'.change sb hm.2.1 hm.2.2) (fun p hp => ?_) hs'
  rcases List.mem_cons.mp hp with rfl | hp
  · exact ⟨ho', hm.2⟩
  · have z := N' p (.tail _ hp)
    exact ⟨sb.extBut _ _ (off p hp) z.1, z.2⟩
end
end Mine
end
section
theorem Mine.reset_T3 : True := by
  w_top off
  exact trivial
open PySem PySem.W PyProof.Rows
set_option maxRecDepth 100000
set_option linter.unusedVariables false
namespace Mine
section
variable {prog : Program} {w : World} {A : Around} {E : Value → Shared → Prop} {s : Shared} {h₀ : Heap} {L sa : Addr} {m : Str → Option Value} {news : List (Addr × Obj)} {g : Obj → List (Addr × Obj)} {so : Obj} {R : SetTable → Prop} {l : List (Int × Tok)} {k : Int} {tk : Tok}
theorem SetG.typeIs (hs : SetG R w so l) (ho : s.heap.get? sa = some so) : s.TypeIs (.ref sa) "set" := ⟨so, ho, hs.ex.1⟩
theorem SetG.noDict (hs : SetG R w so l) (ho : s.heap.get? sa = some so) : ∀ b, Value.ref sa = .ref b → ∃ ob, s.heap.get? b = some ob ∧ ob.dict = none :=
  fun b e => by injection e with e; subst e; exact ⟨so, ho, hs.ex.2.1⟩

theorem set_in {Q : Value → Shared → Prop} (N : News h₀ L s.heap news) (U : UpdF sa so news g) (hs : SetG R w so l) (hb : l.length < 1000) (h : Q (.bool (decide (k ∈ l.map (·.1)))) { s with toks := s.toks + 1 }) :
    wpAny (model prog w) A (compareOp .In (.int k tk) (.ref sa)) Q E s :=
  kse_in N U (hs.objOf (prog := prog)) (by unfold scanBound; (first | lia | omega)) (intKind_is _ _ _ _) rfl h

theorem set_add_method {pl : Sem Bool} {Q : Value × List Value → Shared → Prop} (N : News h₀ L s.heap news) (U : UpdF sa so news g) (hs : SetG R w so l) (hb : l.length < 1000) (h : Q (.builtin "set.add", [.ref sa]) s) :
    wpAny (model prog w) A (getMethod (.ref sa) "add" pl) Q E s :=
  kse_method N U (hs.objOf (prog := prog)) (by unfold scanBound; (first | lia | omega)) h

theorem set_add {Q : Value → Shared → Prop} (Fm : Fr h₀ L s.heap m) (N : News h₀ L s.heap news) (U : UpdF sa so news g) (hs : SetG R w so l) (hb : l.length < 1000)
    (hR : ∀ t, R t → t.fits l.length = true → R (addTab t (l.map ent).toArray (hashInt k) (.int k tk)).2)
    (h : ∀ h' so' l', Fr h₀ L h' m → News h₀ L h' (g so') → SetG R w so' l' → (∀ x, x ∈ l'.map (·.1) ↔ x ∈ l.map (·.1) ∨ x = k) → l'.length ≤ l.length + 1 → (k ∉ l.map (·.1) → l'.length = l.length + 1) → Q .none { s with heap := h', toks := s.toks + 1 }) :
    wpAny (model prog w) A (call (.builtin "set.add") [.ref sa, .int k tk]) Q E s := by
  obtain ⟨pre, post, rfl, hg, a, b⟩ := U.split
  have hm := N (sa, so) (List.mem_append_right _ (.head _))
  refine wpAny_call_entry F.slot_set_add (hs.typeIs hm.1) F.entry_set_add ?_ (F.args_set_add_2 _ _)
  unfold Builtin.«set.add» Builtin.Frozenset.oneOther
  simp only [List.isEmpty_nil, bind_assoc]
  unfold Builtin.Frozenset.addrOf setAdd
  refine wpAny_bind (wpAny_pure ?_)
  try dsimp only
  refine wpAny_bind (wpAny_pure ?_)
  try dsimp only
  refine wpAny_bind ?_
  refine wpAny_holding ?_
  refine wpAny_bind ((intKind prog w).pyHash (intKind_is _ _ k tk) ?_)
  by_cases hk : k ∈ l.map (·.1)
  · refine addHashed_old (s := { s with toks := s.toks + 1 }) (l := l) hm.1 hs hb hk ?_
    refine wpAny_pure ⟨_, rfl, ?_⟩
    exact h s.heap so l Fm (hg so ▸ N) hs (fun x => ⟨.inl, fun q => q.elim id fun e => e ▸ hk⟩) (Nat.le_succ _) (fun q => absurd hk q)
  · refine addHashed_new (s := { s with toks := s.toks + 1 }) (R := R) hm.1 hs hb hk hR ?_
    intro h' o' l' sb ho' hp' hs'
    refine wpAny_pure ⟨_, rfl, ?_⟩
    refine h h' o' l' (Fm.change sb hm.2.1 hm.2.2) (hg o' ▸ N.setIn a b sb ho') hs' (fun x => ?_) (by rw [hp'.length_eq, List.length_append]; exact Nat.le_refl _) (fun _ => by rw [hp'.length_eq, List.length_append]; rfl)
    rw [(hp'.map _).mem_iff, List.map_append, List.mem_append]
    simp

theorem set_truthy {Q : Bool → Shared → Prop} (ho : s.heap.get? sa = some so) (hs : SetG R w so l) (hb : l.length < 1000) (h : Q (!l.isEmpty) { s with toks := s.toks + 1 + 1 }) :
    wpAny (model prog w) A (truthy (.ref sa)) Q E s := by
  have hT := hs.typeIs (s := s) ho
  obtain ⟨hex, ⟨ep, t, hd, hf, _, _⟩, _⟩ := hs
  have hfs : t.fits (l.map ent).toArray.size = true := by simpa using hf
  have hsz : (l.map ent).toArray.size = l.length := by simp
  have hne : ((((l.map ent).toArray.size : Nat) : Int) != 0) = !l.isEmpty := by
    rw [hsz]; cases l with
    | nil => rfl
    | cons p r => simp; (first | lia | omega)
  have key : wpAny (model prog w) A (runValue (.builtin "len" ⟨[.ref sa], []⟩)) (fun r s' => r = .int ((l.map ent).toArray.size : Nat) (s.toks + 1) ∧ Q (!l.isEmpty) s') E s := by
    refine wpAny_runValue (codeAny_builtin entry_len ?_)
    rw [Around.under_plainId plain_len _]
    exact wpAny_mono (wpAny_len_body_set (Q := fun r s' => r = .int ((l.map ent).toArray.size : Nat) (s.toks + 1) ∧ Q (!l.isEmpty) s') ho hex hd hfs (by rw [hsz]; (first | lia | omega)) ⟨rfl, h⟩)
      (fun fin s' h' => by obtain ⟨r, rfl, hq⟩ := h'; exact hq) fun _ _ e => e
  have noBool : typeLookup (.type "set") "__bool__" = pure none := by rw [typeLookup_type, builtinLookup_eq_fast]; kernel_rfl
  unfold truthy
  first
    | refine wpAny_bind (wpAny_callSpecial?_none (name := Str.ofString "__bool__") hT noBool ?_)
    | refine wpAny_bind (wpAny_pure (wpAny_bind (wpAny_callSpecial?_none (name := Str.ofString "__bool__") hT noBool ?_)))
  first
    | refine wpAny_bind (wpAny_specialOf (name := Str.ofString "__len__") hT F.slot_set_len.lookup ?_)
    | refine wpAny_bind (wpAny_pure (wpAny_bind (wpAny_specialOf (name := Str.ofString "__len__") hT F.slot_set_len.lookup ?_)))
  first
    | exact wpAny_bind (wpAny_mono key (fun r s' h' => by obtain ⟨rfl, hq⟩ := h'; exact wpAny_pure (hne ▸ hq)) fun _ _ e => e)
    | exact wpAny_bind (wpAny_pure (wpAny_bind (wpAny_mono key (fun r s' h' => by obtain ⟨rfl, hq⟩ := h'; exact wpAny_pure (hne ▸ hq)) fun _ _ e => e)))

theorem erase_ents (l : List (Int × Tok)) (i : Nat) : SetTable.eraseAt (l.map ent).toArray i = ((l.eraseIdx i).map ent).toArray := by
  apply Array.toList_inj.mp
  unfold SetTable.eraseAt
  simp only [Array.toList_append, Array.toList_extract, List.extract_eq_take_drop, List.drop_zero, Nat.sub_zero]
  rw [List.eraseIdx_eq_take_drop_succ]
  simp [List.map_take, List.map_drop, List.take_of_length_le]
theorem size_eraseAt {α : Type} (xs : Array α) {i : Nat} (hi : i < xs.size) : (SetTable.eraseAt xs i).size = xs.size - 1 := by
  unfold SetTable.eraseAt; simp; (first | lia | omega)
theorem size_insertAt {α : Type} (xs : Array α) (i : Nat) (x : α) : (SetTable.insertAt xs i x).size = xs.size + 1 := by
  rw [← Array.length_toList, SetTable.toList_insertAt]
  have := congrArg List.length (List.take_append_drop i xs.toList)
  simp at this ⊢
  (first | lia | omega)
theorem popped_fits {t : SetTable} {n i : Nat} (hf : t.fits n = true) (hi : i < n) : (t.popped i).fits (n - 1) = true := by
  simp only [SetTable.fits, Bool.and_eq_true, beq_iff_eq, decide_eq_true_eq] at hf ⊢
  have hip : i < t.place.size := by (first | lia | omega)
  have e : t.place[i]? = some t.place[i] := by simp [hip]
  unfold SetTable.popped SetTable.drop
  rw [e]
  simp only [SetTable.fill] at hf ⊢
  rw [size_eraseAt _ hip, size_insertAt]
  (first | lia | omega)
theorem popped_led {t : SetTable} {i : Nat} : (t.popped i).led = t.led := by
  unfold SetTable.popped SetTable.drop
  split <;> rfl

theorem erase_perm {α : Type} (l : List α) {i : Nat} (hi : i < l.length) : (l[i] :: l.eraseIdx i).Perm l := by
  rw [List.eraseIdx_eq_take_drop_succ]
  have e : l = l.take i ++ l[i] :: l.drop (i + 1) := by rw [List.getElem_cons_drop, List.take_append_drop]
  exact (List.perm_middle.symm).trans (List.Perm.of_eq e.symm)
theorem set_pop_method {pl : Sem Bool} {Q : Value × List Value → Shared → Prop} (N : News h₀ L s.heap news) (U : UpdF sa so news g) (hs : SetG R w so l) (h : Q (.builtin "set.pop", [.ref sa]) s) :
    wpAny (model prog w) A (getMethod (.ref sa) "pop" pl) Q E s := by
  obtain ⟨pre, post, rfl, hg, a, b⟩ := U.split
  have hm := N (sa, so) (List.mem_append_right _ (.head _))
  exact getMethod_builtin (hs.typeIs hm.1) F.plainAttrs_set F.slot_set_pop F.type_set_pop (hs.noDict hm.1) h

theorem set_pop {Q : Value → Shared → Prop} (Fm : Fr h₀ L s.heap m) (N : News h₀ L s.heap news) (U : UpdF sa so news g) (hs : SetG (fun _ => True) w so l) (hb : l.length < 1000) (hne : l ≠ [])
    (h : ∀ k tk h' so' l' dr, Fr h₀ L h' m → News h₀ L h' (g so') → SetG (fun _ => True) w so' l' → k ∈ l.map (·.1) → (∀ x, x ∈ l'.map (·.1) ↔ x ∈ l.map (·.1) ∧ x ≠ k) → l'.length + 1 = l.length → Q (.int k tk) { s with heap := h', drawn := dr }) :
    wpAny (model prog w) A (call (.builtin "set.pop") [.ref sa]) Q E s := by
  obtain ⟨pre, post, rfl, hg, a, b⟩ := U.split
  have hm := N (sa, so) (List.mem_append_right _ (.head _))
  have hT := hs.typeIs (s := s) hm.1
  obtain ⟨hex, ⟨ep, t, hd, hf, hled, _⟩, hnd⟩ := hs
  have hsz : (l.map ent).toArray.size = l.length := by simp
  have hfs : t.fits (l.map ent).toArray.size = true := by rw [hsz]; exact hf
  have hpos : 0 < l.length := List.length_pos_iff.mpr hne
  have hpl : t.place.size = l.length := by
    simp only [SetTable.fits, Bool.and_eq_true, beq_iff_eq] at hf
    exact hf.1
  refine wpAny_call_entry F.slot_set_pop hT F.entry_set_pop ?_ (F.args_set_pop_1 _)
  unfold Builtin.«set.pop» Builtin.Frozenset.noArgs
  simp only [List.isEmpty_nil, bind_assoc]
  unfold Builtin.Frozenset.addrOf setPop
  dsimp only
  refine wpAny_bind (wpAny_pure ?_)
  refine wpAny_bind ?_
  refine wpAny_bind (wpAny_setState_of hm.1 hd hfs ?_)
  dsimp only
  have hpp : ∃ j, t.popPlace = some j ∧ j < l.length := by
    unfold SetTable.popPlace
    have he : t.place.isEmpty = false := by
      rw [Array.isEmpty_eq_false_iff]
      intro e; rw [e] at hpl; simp at hpl; (first | lia | omega)
    rw [he]
    refine ⟨_, rfl, ?_⟩
    split <;> (first | lia | omega)
  obtain ⟨j, hj, hjl⟩ := hpp
  rw [hj]
  dsimp only
  have fin : ∀ i dr, i < l.length → wpAny (model prog w) A.in1
      (match (l.map ent).toArray[i]? with
        | some (fst, x) => do
          storeSet sa (SetTable.eraseAt (l.map ent).toArray i) (t.popped i)
          pure (some x)
        | x => unsupported "internal:set.pop")
      (fun r s' => wpAny (model prog w) A.in1 (match r with
        | some x => ret x
        | x => do
          rule "set.pop.empty"
          raiseErrorWords "KeyError" "pop from an empty set") (fun fin s' => ∃ v, fin = Fin.done (Flow.ret v) ∧ Q v s') E s') E { s with drawn := dr } := by
    intro i dr hi
    have e : (l.map ent).toArray[i]? = some (ent l[i]) := by simp [hi]
    rw [e]
    show wpAny (model prog w) A.in1 (do
          storeSet sa (SetTable.eraseAt (l.map ent).toArray i) (t.popped i)
          pure (some (Value.int l[i].1 l[i].2))) _ _ _
    refine wpAny_bind (wpAny_storeSet_of hm.1 hd ?_ (by rw [size_eraseAt _ (by rw [hsz]; exact hi), hsz, sizeLine_eq]; (first | lia | omega)))
    refine wpAny_pure (wpAny_pure ⟨_, rfl, ?_⟩)
    have ho1 := SetG.store (es' := SetTable.eraseAt (l.map ent).toArray i) (t' := t.popped i) hm.1 hex hd
    have sb := Heap.SameBut.update s.heap sa (Obj.putSet (SetTable.eraseAt (l.map ent).toArray i) (t.popped i))
    have hlen : (l.eraseIdx i).length = l.length - 1 := by rw [List.length_eraseIdx, if_pos hi]
    have hsub : ((l.eraseIdx i).map (·.1)).Nodup := hnd.sublist ((List.eraseIdx_sublist l i).map _)
    refine h l[i].1 l[i].2 _ { so with data := .set (SetTable.eraseAt (l.map ent).toArray i) (ep + 1) (t.popped i) } (l.eraseIdx i) dr (Fm.change sb hm.2.1 hm.2.2) (hg _ ▸ N.setIn a b sb ho1)
      ⟨hex, ⟨_, t.popped i, by rw [erase_ents], by rw [hlen]; exact popped_fits hf hi, fun q => by rw [popped_led]; exact hled q, trivial⟩, hsub⟩
      (List.mem_map_of_mem (List.getElem_mem hi)) (fun x => ?_) (by (first | lia | omega))
    have hpm : ((l[i].1) :: (l.eraseIdx i).map (·.1)).Perm (l.map (·.1)) := List.Perm.map (fun p : Int × Tok => p.1) (erase_perm l hi)
    have hnd2 := hpm.nodup_iff.mpr hnd
    rw [List.nodup_cons] at hnd2
    constructor
    · intro hx
      exact ⟨hpm.mem_iff.mp (.tail _ hx), fun e => hnd2.1 (e ▸ hx)⟩
    · rintro ⟨hx, hne'⟩
      rcases List.mem_cons.mp (hpm.mem_iff.mpr hx) with e | e
      · exact absurd e hne'
      · exact e
  unfold setsByText
  refine wpAny_bind (wpAny_bind (wpAny_askSetting (wpAny_pure ?_)))
  dsimp only
  split
  · refine wpAny_bind (wpAny_chooseD (by rw [hsz]; (first | lia | omega)) fun i dr hi => ?_)
    exact fin i dr (by rw [← hsz]; exact hi)
  · rename_i hc
    have hled2 : byText w = false := by
      cases q : byText w with
      | false => rfl
      | true => exact absurd (by rw [show (model prog w).w.params.followText "set-order" = true from q]; rfl) hc
    refine wpAny_bind ?_
    show wpAny _ _ (if (!t.led && decide ((l.map ent).toArray.size > 1)) = true then unsupported "set:maker-not-led" else pure ()) _ _ _
    rw [hled hled2]
    refine wpAny_pure (wpAny_bind (wpAny_pure ?_))
    exact fin j s.drawn hjl
end
end Mine
end
section
theorem Mine.reset_T4 : True := by
  w_top off
  exact trivial
open PySem PySem.W PyProof.Rows
set_option maxRecDepth 100000
set_option linter.unusedVariables false
namespace Mine
/-! a set's table that rises -/
noncomputable def Rise (xs : Array Nat) : Prop := ∀ i j, i < j → j < xs.size → xs.getD i 0 < xs.getD j 0

theorem below_go (xs : Array Nat) (j : Nat) (hx : Rise xs) : ∀ fuel lo hi, lo ≤ hi → hi ≤ xs.size → hi - lo ≤ fuel → (∀ k, k < lo → xs.getD k 0 < j) → (∀ k, hi ≤ k → k < xs.size → j ≤ xs.getD k 0) →
    SetTable.below.go xs j fuel lo hi ≤ xs.size ∧ (∀ k, k < SetTable.below.go xs j fuel lo hi → xs.getD k 0 < j) ∧ (∀ k, SetTable.below.go xs j fuel lo hi ≤ k → k < xs.size → j ≤ xs.getD k 0)
  | 0, lo, hi, h1, h2, h3, h4, h5 => by
    have : lo = hi := by omega
    subst this
    exact ⟨h2, h4, h5⟩
  | fuel + 1, lo, hi, h1, h2, h3, h4, h5 => by
    unfold SetTable.below.go
    by_cases hlt : lo < hi
    · rw [if_pos hlt]
      dsimp only
      have hm : (lo + hi) / 2 < xs.size := by omega
      have e : xs.getD ((lo + hi) / 2) j = xs.getD ((lo + hi) / 2) 0 := by simp [Array.getD, hm]
      rw [e]
      by_cases hc : xs.getD ((lo + hi) / 2) 0 < j
      · rw [if_pos hc]
        refine below_go xs j hx fuel ((lo + hi) / 2 + 1) hi (by omega) h2 (by omega) (fun k hk => ?_) h5
        rcases Nat.lt_or_ge k ((lo + hi) / 2) with h | h
        · exact Nat.lt_trans (hx k _ h hm) hc
        · have : k = (lo + hi) / 2 := by omega
          subst this; exact hc
      · rw [if_neg hc]
        refine below_go xs j hx fuel lo ((lo + hi) / 2) (by omega) (by omega) (by omega) h4 (fun k hk hk2 => ?_)
        rcases Nat.lt_or_ge ((lo + hi) / 2) k with h | h
        · have := hx _ k h hk2; omega
        · have : k = (lo + hi) / 2 := by omega
          subst this; omega
    · rw [if_neg hlt]
      have : lo = hi := by omega
      subst this
      exact ⟨h2, h4, h5⟩
theorem below_is {xs : Array Nat} (hx : Rise xs) (j : Nat) : SetTable.below xs j ≤ xs.size ∧ (∀ k, k < SetTable.below xs j → xs.getD k 0 < j) ∧ (∀ k, SetTable.below xs j ≤ k → k < xs.size → j ≤ xs.getD k 0) :=
  below_go xs j hx xs.size 0 xs.size (Nat.zero_le _) (Nat.le_refl _) (by omega) (fun k hk => absurd hk (by omega)) (fun k hk hk2 => absurd hk (by omega))
theorem getD_at {xs : Array Nat} {i : Nat} (h : i < xs.size) : xs[i]? = some (xs.getD i 0) := by simp [Array.getD, h]

theorem below_zero {xs : Array Nat} (hx : Rise xs) : SetTable.below xs 0 = 0 := by
  have h := below_is hx 0
  rcases Nat.eq_zero_or_pos (SetTable.below xs 0) with e | e
  · exact e
  · exact absurd (h.2.1 0 e) (by omega)
theorem below_next {xs : Array Nat} (hx : Rise xs) {i : Nat} (hi : i < xs.size) : SetTable.below xs (xs.getD i 0 + 1) = i + 1 := by
  have h := below_is hx (xs.getD i 0 + 1)
  have h1 : i < SetTable.below xs (xs.getD i 0 + 1) := by
    apply Nat.lt_of_not_le
    intro hle
    have := h.2.2 i hle hi
    omega
  have h2 : SetTable.below xs (xs.getD i 0 + 1) ≤ i + 1 := by
    apply Nat.le_of_not_lt
    intro hlt
    have a1 := h.2.1 (i + 1) hlt
    have a2 := hx i (i + 1) (Nat.lt_succ_self _) (by omega)
    omega
  omega

theorem insertAt_getD (xs : Array Nat) {p : Nat} (x : Nat) (hp : p ≤ xs.size) (k : Nat) :
    (SetTable.insertAt xs p x).getD k 0 = if k < p then xs.getD k 0 else if k = p then x else xs.getD (k - 1) 0 := by
  have e : (SetTable.insertAt xs p x).getD k 0 = ((SetTable.insertAt xs p x).toList[k]?).getD 0 := by
    rw [Array.getD_eq_getD_getElem?, Array.getElem?_toList]
  have e2 : ∀ i, xs.getD i 0 = (xs.toList[i]?).getD 0 := fun i => by rw [Array.getD_eq_getD_getElem?, Array.getElem?_toList]
  rw [e, SetTable.toList_insertAt, e2, e2]
  have hl : xs.toList.length = xs.size := Array.length_toList
  by_cases h1 : k < p
  · rw [if_pos h1, List.getElem?_append_left (by rw [List.length_take]; omega), List.getElem?_take, if_pos h1]
  · rw [if_neg h1, List.getElem?_append_right (by rw [List.length_take]; omega), List.length_take, Nat.min_eq_left (by omega)]
    by_cases h2 : k = p
    · rw [if_pos h2, h2, Nat.sub_self]; rfl
    · rw [if_neg h2]
      obtain ⟨d, rfl⟩ : ∃ d, k = p + d + 1 := ⟨k - p - 1, by omega⟩
      have : p + d + 1 - p = d + 1 := by omega
      rw [this, List.getElem?_cons_succ, List.getElem?_drop]
      rfl
theorem insertAt_rise {xs : Array Nat} (hx : Rise xs) {j : Nat} (hj : ∀ k, k < xs.size → xs.getD k 0 ≠ j) : Rise (SetTable.insertAt xs (SetTable.below xs j) j) := by
  have hb := below_is hx j
  intro a b hab hbs
  rw [size_insertAt] at hbs
  rw [insertAt_getD xs j hb.1, insertAt_getD xs j hb.1]
  generalize hp : SetTable.below xs j = p at hb ⊢
  by_cases a1 : a < p
  · rw [if_pos a1]
    by_cases b1 : b < p
    · rw [if_pos b1]; exact hx a b hab (by omega)
    · rw [if_neg b1]
      by_cases b2 : b = p
      · rw [if_pos b2]; exact hb.2.1 a a1
      · rw [if_neg b2]
        have c1 := hb.2.1 a a1
        have c2 := hb.2.2 (b - 1) (by omega) (by omega)
        omega
  · rw [if_neg a1, if_neg (by omega : ¬ b < p), if_neg (by omega : ¬ b = p)]
    by_cases a2 : a = p
    · rw [if_pos a2]
      have c2 := hb.2.2 (b - 1) (by omega) (by omega)
      have c3 := hj (b - 1) (by omega)
      omega
    · rw [if_neg a2]
      exact hx (a - 1) (b - 1) (by omega) (by omega)

/-- what is kept of a set that only grows -/
noncomputable def RN (t : SetTable) : Prop := t.plain = true → Rise t.place ∧ t.dummies = #[] ∧ t.mask = 7

theorem slot_empty {t : SetTable} (hx : Rise t.place) {j : Nat} (h : t.slot j = .empty) : ∀ k, k < t.place.size → t.place.getD k 0 ≠ j := by
  intro k hk e
  have hb := below_is hx j
  have h1 : SetTable.below t.place j = k := by
    rcases Nat.lt_trichotomy (SetTable.below t.place j) k with h2 | h2 | h2
    · have a1 := hb.2.2 (SetTable.below t.place j) (Nat.le_refl _) (by omega)
      have a2 := hx _ k h2 hk
      omega
    · exact h2
    · have := hb.2.1 k h2; omega
  unfold SetTable.slot at h
  dsimp only at h
  rw [h1, getD_at hk, e] at h
  simp at h

theorem probe_go {t : SetTable} {h : Int} (hd : t.dummies = #[]) : ∀ (fuel : Nat) (p : SetTable.Probe) (r : SetTable.Met), p.dummy = none → SetTable.probe.go t (fun _ => h + 1) h fuel p = some r → ∃ j, r = .empty j none ∧ t.slot j = .empty
  | 0, p, r, hp, hr => by unfold SetTable.probe.go at hr; cases hr
  | fuel + 1, p, r, hp, hr => by
    unfold SetTable.probe.go at hr
    cases hs : t.slot p.j with
    | empty =>
      rw [hs] at hr
      cases hr
      exact ⟨p.j, by rw [hp], hs⟩
    | dummy =>
      exfalso
      unfold SetTable.slot at hs
      dsimp only at hs
      split at hs
      · cases hs
      · split at hs
        · rename_i hh
          rw [hd] at hh
          simp [SetTable.has, SetTable.below] at hh
        · cases hs
    | live i =>
      rw [hs] at hr
      dsimp only at hr
      have e : ((h + 1 : Int) == h) = false := by
        rw [beq_eq_false_iff_ne]; omega
      rw [e] at hr
      refine probe_go hd fuel _ r ?_ (by simpa using hr)
      unfold SetTable.advance
      split
      · exact hp
      · exact hp
theorem freeSlot_is {t : SetTable} {h : Int} (hd : t.dummies = #[]) {j : Nat} {b : Bool} (hf : t.freeSlot h = some (j, b)) : b = false ∧ t.slot j = .empty := by
  unfold SetTable.freeSlot at hf
  split at hf
  · rename_i j' dm he
    unfold SetTable.probe at he
    obtain ⟨j2, e2, hs⟩ := probe_go hd _ _ _ rfl he
    cases e2
    cases hf
    exact ⟨rfl, hs⟩
  · cases hf
theorem layNew_unplain (t : SetTable) (es : Array (Int × Value)) (h : Int) (x : Value) (hp : t.plain = false) : (layNew t es h x).2.1.plain = false := by
  unfold layNew
  split
  · dsimp only
    unfold SetTable.orStandIn
    split
    · exact hp
    · rfl
  · rfl
theorem RN_add {t : SetTable} {es : Array (Int × Value)} {h : Int} {x : Value} (hR : RN t) (hf : t.fits es.size = true) (hs : es.size ≤ 3) : RN (addTab t es h x).2 := by
  cases hp : t.plain with
  | false =>
    have h1 := layNew_unplain t es h x hp
    unfold addTab
    split
    · intro q
      have h2 := relayAll_plain (layNew t es h x).2.1 (layNew t es h x).1 (SetTable.grown (layNew t es h x).1.size) h1
      rw [h2] at q; cases q
    · intro q; rw [h1] at q; cases q
  | true =>
    obtain ⟨hx, hd, hm⟩ := hR hp
    have hpl : t.place.size = es.size := by
      simp only [SetTable.fits, Bool.and_eq_true, beq_iff_eq] at hf
      exact hf.1
    by_cases hq : (layNew t es h x).2.1.plain = true
    · have key : (layNew t es h x).2.1.place.size ≤ 4 ∧ Rise (layNew t es h x).2.1.place ∧ (layNew t es h x).2.1.dummies = #[] ∧ (layNew t es h x).2.1.mask = 7 := by
        unfold layNew at hq ⊢
        cases hfs : t.freeSlot h with
        | none => rw [hfs] at hq; cases hq
        | some jb =>
          obtain ⟨j, b⟩ := jb
          obtain ⟨rfl, hse⟩ := freeSlot_is hd hfs
          rw [hfs] at hq
          dsimp only at hq ⊢
          unfold SetTable.orStandIn at hq ⊢
          split
          · unfold SetTable.put
            dsimp only
            rw [hd]
            refine ⟨by rw [size_insertAt]; omega, insertAt_rise hx (slot_empty hx hse), ?_, hm⟩
            rw [if_neg (by simp [SetTable.has, SetTable.below])]
          · rename_i hnf
            rw [if_neg hnf] at hq
            cases hq
      have hfull : (layNew t es h x).2.1.tooFull = false := by
        unfold SetTable.tooFull SetTable.fill
        rw [key.2.2.1, key.2.2.2]
        have := key.1
        simp
        omega
      unfold addTab
      rw [hfull, Bool.and_false, if_neg Bool.false_ne_true]
      exact fun _ => key.2
    · have h1 : (layNew t es h x).2.1.plain = false := by simpa using hq
      unfold addTab
      split
      · intro q
        have h2 := relayAll_plain (layNew t es h x).2.1 (layNew t es h x).1 (SetTable.grown (layNew t es h x).1.size) h1
        rw [h2] at q; cases q
      · intro q; rw [h1] at q; cases q
theorem RN_fresh (b : Bool) : RN (.fresh 0 0 b) := fun _ => ⟨fun i j hij hj => absurd hj (by simp [SetTable.fresh]), rfl, rfl⟩
end Mine
end
section
theorem Mine.reset_T5a : True := by
  w_top off
  exact trivial
open PySem PySem.W PyProof.Rows
set_option maxRecDepth 100000
set_option linter.unusedVariables false
namespace Mine
/-! walking over a set -/
theorem owner_set_iterator : Manifest.owners.lookup (String.ofList ['r', 'o', 't', 'a', 'r', 'e', 't', 'i', '_', 't', 'e', 's'].reverse) = some Manifest.sig_set_iterator := by kernel_rfl
theorem slot_si_iter : Slot "set_iterator" "__iter__" "set_iterator.__iter__" :=
  .of (owner := "set_iterator") (n := "__iter__") (by rw [typeLookup_type, builtinLookup_eq_fast]; kernel_rfl) (by decide +kernel) (by decide +kernel) (by decide +kernel)
    (by first | exact .inl (by decide +kernel) | exact .inr (by decide +kernel)) (by rw [isSubtype_type]; kernel_rfl)
theorem slot_si_next : Slot "set_iterator" "__next__" "set_iterator.__next__" :=
  .of (owner := "set_iterator") (n := "__next__") (by rw [typeLookup_type, builtinLookup_eq_fast]; kernel_rfl) (by decide +kernel) (by decide +kernel) (by decide +kernel)
    (by first | exact .inl (by decide +kernel) | exact .inr (by decide +kernel)) (by rw [isSubtype_type]; kernel_rfl)
theorem entry_si_next : entryFor table "set_iterator.__next__" = some Builtin.«set_iterator.__next__» := entryFor_of_tree (by kernel_rfl)
theorem args_si_iter (a : Value) : argsOk "set_iterator.__iter__" ⟨[a], []⟩ := by
  unfold argsOk; rw [signature?_of (id := "set_iterator.__iter__") (n := ['_', '_', 'r', 'e', 't', 'i', '_', '_']) (o := ['r', 'o', 't', 'a', 'r', 'e', 't', 'i', '_', 't', 'e', 's']) (by kernel_rfl) owner_set_iterator]; kernel_rfl
theorem args_si_next (a : Value) : argsOk "set_iterator.__next__" ⟨[a], []⟩ := by
  unfold argsOk; rw [signature?_of (id := "set_iterator.__next__") (n := ['_', '_', 't', 'x', 'e', 'n', '_', '_']) (o := ['r', 'o', 't', 'a', 'r', 'e', 't', 'i', '_', 't', 'e', 's']) (by kernel_rfl) owner_set_iterator]; kernel_rfl
theorem entry_si_iter : entryFor table "set_iterator.__iter__" = some Builtin.«dict_keyiterator.__iter__» :=
  entryFor_alias (id' := "dict_keyiterator.__iter__") (by kernel_rfl) (by first | rfl | decide +kernel | (unfold String.splitOn; simp +decide [String.splitOnAux])) (by decide +kernel) (by kernel_rfl)
theorem entry_set_iter : entryFor table "set.__iter__" = some Builtin.«frozenset.__iter__» :=
  entryFor_alias (id' := "frozenset.__iter__") (by kernel_rfl) rfl (by decide +kernel) (by kernel_rfl)

end Mine
end
section
theorem Mine.reset_T5 : True := by
  w_top off
  exact trivial
open PySem PySem.W PyProof.Rows
set_option maxRecDepth 100000
set_option linter.unusedVariables false
namespace Mine
theorem pick_go {α : Type} (next : Nat → Nat) : ∀ (fuel k : Nat) (left : List α) (out : Array α), left.length = fuel → (pickOrder.go next fuel k left out).toList.Perm (out.toList ++ left)
  | 0, k, left, out, h => by
    have : left = [] := List.length_eq_zero_iff.mp h
    subst this
    unfold pickOrder.go
    simp
  | fuel + 1, k, left, out, h => by
    have hlt : next k % left.length < left.length := Nat.mod_lt _ (by (first | lia | omega))
    unfold pickOrder.go
    rw [List.getElem?_eq_getElem hlt]
    dsimp only
    refine (pick_go next fuel (k + 1) _ _ (by rw [List.length_eraseIdx, if_pos hlt]; (first | lia | omega))).trans ?_
    rw [Array.toList_push, List.append_assoc]
    exact List.Perm.append_left _ (erase_perm left hlt)
theorem pick_perm {α : Type} (next : Nat → Nat) (xs : Array α) : (pickOrder next xs).toList.Perm xs.toList := by
  have := pick_go next xs.size 0 xs.toList #[] Array.length_toList
  simpa [pickOrder] using this

section
variable {prog : Program} {w : World} {A : Around} {E : Value → Shared → Prop} {s : Shared} {sa I : Addr} {so : Obj} {l : List (Int × Tok)}

/-- the set's next, for a set whose iterator stands on a place -/
noncomputable def NextBy (prog : Program) (w : World) (sa : Addr) (so : Obj) (ep : Nat) (q : List (Int × Tok)) (f : Nat → Nat) : Prop :=
  f 0 = 0 ∧ ∀ (A : Around) (E : Value → Shared → Prop) (s : Shared) (i : Nat) (Q : Option (Value × Nat) → Shared → Prop), i ≤ q.length → s.heap.get? sa = some so →
    Q ((q[i]?).map fun p => (.int p.1 p.2, f (i + 1))) s → wpAny (model prog w) A (setNext sa (f i) i ep) Q E s

theorem nextBy_text {ep : Nat} {t : SetTable} (hd : so.data = .set (l.map ent).toArray ep t) (hf : t.fits l.length = true) (hb : byText w = true) :
    ∃ q, q.Perm l ∧ NextBy prog w sa so ep q (fun _ => 0) := by
  obtain ⟨q, e, hp⟩ := perm_ents (show (pickOrder (w.params.setOrder sa ep) (l.map ent).toArray).toList.Perm (l.map ent) by simpa using pick_perm (w.params.setOrder sa ep) (l.map ent).toArray)
  refine ⟨q, hp, rfl, fun A E s i Q hi ho h => ?_⟩
  have hfs : t.fits (l.map ent).toArray.size = true := by simpa using hf
  unfold setNext
  refine wpAny_bind (wpAny_setState_of ho hd hfs ?_)
  dsimp only
  unfold setsByText
  refine wpAny_bind (wpAny_bind (wpAny_askSetting (wpAny_pure ?_)))
  dsimp only
  rw [show (model prog w).w.params.followText "set-order" = true from hb, if_pos rfl]
  simp only [bne_self_eq_false, Bool.false_eq_true, if_false]
  unfold setWalk
  refine wpAny_bind (wpAny_bind (wpAny_setState_of ho hd hfs ?_))
  dsimp only
  unfold setsByText
  refine wpAny_bind (wpAny_bind (wpAny_askSetting (wpAny_pure ?_)))
  dsimp only
  rw [show (model prog w).w.params.followText "set-order" = true from hb, if_pos rfl]
  refine wpAny_bind (wpAny_askSetting (wpAny_pure (wpAny_pure ?_)))
  have e2 : (pickOrder ((model prog w).w.params.setOrder sa ep) (l.map ent).toArray)[i]? = (q[i]?).map ent := by
    show (pickOrder (w.params.setOrder sa ep) (l.map ent).toArray)[i]? = _
    rw [← Array.getElem?_toList, e, List.getElem?_map]
  rw [e2, Option.map_map]
  exact h

noncomputable def slotOf (t : SetTable) : Nat → Nat
  | 0 => 0
  | i + 1 => t.place.getD i 0 + 1
theorem nextBy_place {ep : Nat} {t : SetTable} (hd : so.data = .set (l.map ent).toArray ep t) (hf : t.fits l.length = true) (hb : byText w = false) (hled : t.led = true) (hpl : t.plain = true ∨ l.length ≤ 1) (hx : Rise t.place) :
    NextBy prog w sa so ep l (slotOf t) := by
  refine ⟨rfl, fun A E s i Q hi ho h => ?_⟩
  have hsz : (l.map ent).toArray.size = l.length := by simp
  have hfs : t.fits (l.map ent).toArray.size = true := by rw [hsz]; exact hf
  have hps : t.place.size = l.length := by
    simp only [SetTable.fits, Bool.and_eq_true, beq_iff_eq] at hf
    exact hf.1
  unfold setNext
  refine wpAny_bind (wpAny_setState_of ho hd hfs ?_)
  dsimp only
  unfold setsByText
  refine wpAny_bind (wpAny_bind (wpAny_askSetting (wpAny_pure ?_)))
  dsimp only
  rw [show (model prog w).w.params.followText "set-order" = false from hb, if_neg Bool.false_ne_true]
  have hdr : (!t.plain && decide ((l.map ent).toArray.size > 1)) = false := by
    rcases hpl with h1 | h1
    · rw [h1]; rfl
    · rw [hsz, decide_eq_false (by (first | lia | omega)), Bool.and_false]
  split
  · rename_i hc
    have hc' : (!t.plain && decide ((l.map ent).toArray.size > 1)) = true := hc
    rw [hdr] at hc'; cases hc'
  · refine wpAny_bind ?_
    show wpAny _ _ (if (!t.led && !(l.map ent).toArray.isEmpty) = true then unsupported "set:maker-not-led" else pure ()) _ _ _
    rw [hled]
    refine wpAny_pure (wpAny_pure ?_)
    have hbl : SetTable.below t.place (slotOf t i) = i := by
      cases i with
      | zero => exact below_zero hx
      | succ i => exact below_next hx (by (first | lia | omega))
    rw [hbl]
    rcases Nat.lt_or_ge i l.length with hlt | hge
    · have e1 : (l.map ent).toArray[i]? = some (ent l[i]) := by simp [hlt]
      have e2 : l[i]? = some l[i] := List.getElem?_eq_getElem hlt
      rw [e1, getD_at (by (first | lia | omega) : i < t.place.size)]
      rw [e2] at h
      exact h
    · have e1 : (l.map ent).toArray[i]? = none := by simp [hge]
      have e2 : l[i]? = none := List.getElem?_eq_none hge
      rw [e1]
      rw [e2] at h
      exact h

abbrev SetIter (h : Heap) (I : Addr) (first : Value) (i : Nat) (sa : Addr) (n ep : Nat) : Prop :=
  h.get? I = some { cls := .type "set_iterator", dict := none, data := .fields #[first, rawInt i, .ref sa, rawInt n, rawInt ep], slots := #[] }

theorem si_self {first : Value} {i n ep : Nat} {Q : Value → Shared → Prop} (hit : SetIter s.heap I first i sa n ep) (h : Q (.ref I) s) : wpAny (model prog w) A (pyIter (.ref I)) Q E s := by
  have hT : s.TypeIs (.ref I) "set_iterator" := ⟨_, hit, rfl⟩
  refine wpAny_pyIter_slot hT slot_si_iter (wpAny_call_entry slot_si_iter hT entry_si_iter ?_ (args_si_iter _))
  show wpAny _ _ (ret (.ref I)) _ _ s
  exact wpAny_pure ⟨_, rfl, "set_iterator", _, hT, slot_si_next.lookup, h⟩

theorem stop_none {s : Shared} {Q : Option Value → Shared → Prop} {K : Value → Sem (Option Value)} (hh : A.handled = none) (hQ : ∀ h', (∀ b o, s.heap.get? b = some o → h'.get? b = some o) → Q none { s with heap := h' }) :
    wpAny (model prog w) A (do raiseNew (← newExc (.type "StopIteration") [])) (fun (_ : Fin) _ => False) (fun e s' => wpAny (model prog w) A (isInstance e (.type "StopIteration")) (fun b s'' => b = true ∧ Q none s'') E s') s := by
  refine wpAny_bind ?_
  simp only [newExc, newTuple]
  refine wpAny_bind (wpAny_newObj_type ?_ (by size_fits))
  refine wpAny_bind (m := firstArgMember _ _) (wpAny_of_eq (a := Value.none) (by first | rfl | (simp only [firstArgMember]; rfl)) ?_)
  refine wpAny_newObj_type ?_ (by size_fits)
  simp only [raiseNew]
  refine wpAny_bind (wpAny_handled ?_)
  rw [hh]
  refine wpAny_bind (wpAny_pure (wpAny_throw ?_))
  exact wpAny_isInstance (T := "StopIteration") (b := true) ⟨_, Heap.get?_push_size _ rfl, rfl⟩ isSubtype_stop ⟨rfl, hQ _ fun b o e => Heap.get?_push_of_some _ (Heap.get?_push_of_some _ e)⟩
end
end Mine
end
section
theorem Mine.reset_T6 : True := by
  w_top off
  exact trivial
open PySem PySem.W PyProof.Rows
set_option maxRecDepth 100000
set_option linter.unusedVariables false
namespace Mine
section
variable {prog : Program} {w : World} {A : Around} {E : Value → Shared → Prop} {s : Shared} {sa I : Addr} {so : Obj} {l q : List (Int × Tok)}
theorem si_item {ep : Nat} {t : SetTable} {f : Nat → Nat} {n i : Nat} {Q : Option Value → Shared → Prop} (hne : sa ≠ I) (hd : so.data = .set (l.map ent).toArray ep t) (hf : t.fits l.length = true) (hn : l.length = n)
    (hN : NextBy prog w sa so ep q f) (hit : SetIter s.heap I (rawInt (f i)) i sa n ep) (ho : s.heap.get? sa = some so) {p : Int × Tok} (hp : q[i]? = some p)
    (hQ : ∀ h', SetIter h' I (rawInt (f (i + 1))) (i + 1) sa n ep → Heap.SameBut I s.heap h' → Q (some (.int p.1 p.2)) { s with heap := h' }) :
    wpAny (model prog w) A (pyNext (.ref I)) Q E s := by
  have hT : s.TypeIs (.ref I) "set_iterator" := ⟨_, hit, rfl⟩
  have hsz : (l.map ent).toArray.size = l.length := by simp
  have hfs : t.fits (l.map ent).toArray.size = true := by rw [hsz]; exact hf
  unfold pyNext
  refine wpAny_bind (wpAny_attempt (wpAny_callSpecial?_slot (name := Str.ofString "__next__") hT slot_si_next (wpAny_call_entry slot_si_next hT entry_si_next ?_ (args_si_next _))))
  unfold Builtin.«set_iterator.__next__» slotArgs
  simp only [List.isEmpty_nil, Bool.not_true, Bool.false_eq_true, ↓reduceIte, List.length_nil, bne_self_eq_false]
  refine wpAny_bind (wpAny_pure ?_)
  refine wpAny_bind (wpAny_fieldsOf hit rfl ?_)
  show wpAny _ _ (setEntries sa >>= _) _ _ _
  refine wpAny_bind (wpAny_setEntries_of ho hd hfs ?_)
  rw [if_neg (by rw [hsz, hn]; simp)]
  show wpAny _ _ (setNext sa (f i) i ep >>= _) _ _ _
  have hil : i < q.length := (List.getElem?_eq_some_iff.mp hp).1
  refine wpAny_bind (hN.2 _ _ _ i _ (Nat.le_of_lt hil) ho ?_)
  rw [hp]
  show wpAny _ _ (setField (.ref I) 0 (rawInt (f (i + 1))) >>= _) _ _ _
  refine wpAny_bind (wpAny_setField_rec hit (by simp) fun h1 hit1 sb1 => ?_)
  show wpAny _ _ (setField (.ref I) 1 (rawInt (i + 1)) >>= _) _ _ _
  refine wpAny_bind (wpAny_setField_rec (s := { s with heap := h1 }) hit1 (by simp) fun h2 hit2 sb2 => ?_)
  refine wpAny_pure ⟨_, rfl, ?_⟩
  refine wpAny_pure ?_
  exact hQ h2 hit2 (sb1.trans sb2)

theorem si_done {ep : Nat} {t : SetTable} {f : Nat → Nat} {n : Nat} {Q : Option Value → Shared → Prop} (hh : A.handled = none) (hne : sa ≠ I) (hd : so.data = .set (l.map ent).toArray ep t) (hf : t.fits l.length = true) (hn : l.length = n) (hq : q.length = n)
    (hN : NextBy prog w sa so ep q f) (hit : SetIter s.heap I (rawInt (f n)) n sa n ep) (ho : s.heap.get? sa = some so)
    (hQ : ∀ h', (∀ b o, b ≠ I → s.heap.get? b = some o → h'.get? b = some o) → Q none { s with heap := h' }) :
    wpAny (model prog w) A (pyNext (.ref I)) Q E s := by
  have hT : s.TypeIs (.ref I) "set_iterator" := ⟨_, hit, rfl⟩
  have hsz : (l.map ent).toArray.size = l.length := by simp
  have hfs : t.fits (l.map ent).toArray.size = true := by rw [hsz]; exact hf
  unfold pyNext
  refine wpAny_bind (wpAny_attempt (wpAny_callSpecial?_slot (name := Str.ofString "__next__") hT slot_si_next (wpAny_call_entry slot_si_next hT entry_si_next ?_ (args_si_next _))))
  unfold Builtin.«set_iterator.__next__» slotArgs
  simp only [List.isEmpty_nil, Bool.not_true, Bool.false_eq_true, ↓reduceIte, List.length_nil, bne_self_eq_false]
  refine wpAny_bind (wpAny_pure ?_)
  refine wpAny_bind (wpAny_fieldsOf hit rfl ?_)
  show wpAny _ _ (setEntries sa >>= _) _ _ _
  refine wpAny_bind (wpAny_setEntries_of ho hd hfs ?_)
  rw [if_neg (by rw [hsz, hn]; simp)]
  show wpAny _ _ (setNext sa (f n) n ep >>= _) _ _ _
  refine wpAny_bind (hN.2 _ _ _ n _ (Nat.le_of_eq hq.symm) ho ?_)
  rw [List.getElem?_eq_none (by omega)]
  show wpAny _ _ (setField (.ref I) 2 .none >>= _) _ _ _
  refine wpAny_bind (wpAny_setField_rec hit (by simp) fun h1 hit1 sb1 => ?_)
  refine wpAny_bind ?_
  simp only [newExc, newTuple]
  refine wpAny_bind (wpAny_newObj_type ?_ (by size_fits))
  refine wpAny_bind (m := firstArgMember _ _) (wpAny_of_eq (a := Value.none) (by first | rfl | (simp only [firstArgMember]; rfl)) ?_)
  refine wpAny_newObj_type ?_ (by size_fits)
  simp only [raiseNew]
  refine wpAny_bind (wpAny_handled ?_)
  rw [show A.in1.handled = none from hh]
  refine wpAny_bind (wpAny_pure (wpAny_throw ?_))
  refine wpAny_bind (wpAny_isInstance (T := "StopIteration") (b := true) ⟨_, Heap.get?_push_size _ rfl, rfl⟩ isSubtype_stop ?_)
  exact wpAny_pure (hQ _ fun b o hb e => Heap.get?_push_of_some _ (Heap.get?_push_of_some _ (sb1.extBut b o hb e)))

theorem si_walks {ep : Nat} {t : SetTable} {f : Nat → Nat} {n : Nat} (hh : A.handled = none) (hne : sa ≠ I) (hd : so.data = .set (l.map ent).toArray ep t) (hf : t.fits l.length = true) (hn : l.length = n) (hq : q.length = n) (hN : NextBy prog w sa so ep q f) :
    Walks prog w A I [I, sa] [I] n (fun i v => ∃ p, q[i]? = some p ∧ v = .int p.1 p.2) (fun i h => SetIter h I (rawInt (f i)) i sa n ep ∧ h.get? sa = some so) where
  sub := fun b hb => by simp at hb; simp [hb]
  frame := fun _ _ _ st hk => ⟨hk I (by simp) _ st.1, hk sa (by simp) _ st.2⟩
  item := fun i s Q E hi st hQ => by
    have hp : q[i]? = some q[i] := List.getElem?_eq_getElem (by omega)
    refine si_item hne hd hf hn hN st.1 st.2 hp fun h' hit' sb => ?_
    exact hQ _ h' s.toks ⟨_, hp, rfl⟩ ⟨hit', sb.extBut _ _ hne st.2⟩ fun b o hb e => sb.extBut b o (fun h => hb (by simp [h])) e
  done := fun s Q E st hQ => si_done hh hne hd hf hn hq hN st.1 st.2 fun h' he => hQ h' s.toks fun b o hb e => he b o (fun h => hb (by simp [h])) e
  self := fun _ _ _ _ st hQ => si_self st.1 hQ
end
end Mine
end
section
theorem Mine.reset_T7 : True := by
  w_top off
  exact trivial
open PySem PySem.W PyProof.Rows
set_option maxRecDepth 100000
set_option linter.unusedVariables false
namespace Mine
section
variable {prog : Program} {w : World} {A : Around} {E : Value → Shared → Prop} {s : Shared} {sa I T : Addr} {so : Obj} {l : List (Int × Tok)} {od : List Nat}
theorem drawOrder_perm {α : Type} : ∀ (n : Nat) (xs : List α) (s : Shared) (Q : List α → Shared → Prop), xs.length = n → (∀ ys dr, ys.Perm xs → Q ys { s with drawn := dr }) → wpAny (model prog w) A (drawOrder n xs) Q E s
  | 0, xs, s, Q, h, hQ => by
    have : xs = [] := List.length_eq_zero_iff.mp h
    subst this
    unfold drawOrder
    exact wpAny_pure (hQ [] s.drawn .nil)
  | n + 1, [], s, Q, h, hQ => by cases h
  | n + 1, x :: xs, s, Q, h, hQ => by
    unfold drawOrder
    refine wpAny_bind (wpAny_chooseD (by simp) fun i dr hi => ?_)
    rw [List.getElem?_eq_getElem hi]
    dsimp only
    refine wpAny_bind (drawOrder_perm n _ _ _ (by rw [List.length_eraseIdx, if_pos hi]; simp at h ⊢; omega) fun ys dr' hp => wpAny_pure ?_)
    exact hQ _ dr' ((List.Perm.cons _ hp).trans (erase_perm _ hi))

abbrev tupOf (od : List Nat) : Obj := { cls := .type "tuple", data := .seq (od.map fun (i : Nat) => rawInt i).toArray }

theorem sd_item {ep : Nat} {t : SetTable} {n i : Nat} {Q : Option Value → Shared → Prop} (hne : sa ≠ I) (hd : so.data = .set (l.map ent).toArray ep t) (hf : t.fits l.length = true) (hn : l.length = n)
    (hit : SetIter s.heap I (.ref T) i sa n ep) (ho : s.heap.get? sa = some so) (hT : s.heap.get? T = some (tupOf od)) {j : Nat} (hj : od[i]? = some j) (hjl : j < l.length)
    (hQ : ∀ h', SetIter h' I (.ref T) (i + 1) sa n ep → Heap.SameBut I s.heap h' → Q (some (.int l[j].1 l[j].2)) { s with heap := h' }) :
    wpAny (model prog w) A (pyNext (.ref I)) Q E s := by
  have hTy : s.TypeIs (.ref I) "set_iterator" := ⟨_, hit, rfl⟩
  have hsz : (l.map ent).toArray.size = l.length := by simp
  have hfs : t.fits (l.map ent).toArray.size = true := by rw [hsz]; exact hf
  unfold pyNext
  refine wpAny_bind (wpAny_attempt (wpAny_callSpecial?_slot (name := Str.ofString "__next__") hTy slot_si_next (wpAny_call_entry slot_si_next hTy entry_si_next ?_ (args_si_next _))))
  unfold Builtin.«set_iterator.__next__» slotArgs
  simp only [List.isEmpty_nil, Bool.not_true, Bool.false_eq_true, ↓reduceIte, List.length_nil, bne_self_eq_false]
  refine wpAny_bind (wpAny_pure ?_)
  refine wpAny_bind (wpAny_fieldsOf hit rfl ?_)
  show wpAny _ _ (setEntries sa >>= _) _ _ _
  refine wpAny_bind (wpAny_setEntries_of ho hd hfs ?_)
  rw [if_neg (by rw [hsz, hn]; simp)]
  show wpAny _ _ (seqItems? (.ref T) >>= _) _ _ _
  refine wpAny_bind (wpAny_seqItems hT rfl ?_)
  have e : (od.map fun (i : Nat) => rawInt i).toArray[(i : Int).toNat]? = some (rawInt j) := by
    show (od.map fun (i : Nat) => rawInt i).toArray[i]? = _
    simp [hj]
  dsimp only
  rw [e]
  show wpAny _ _ (setNextDrawn sa j ep >>= _) _ _ _
  unfold setNextDrawn
  refine wpAny_bind (wpAny_bind (wpAny_setState_of ho hd hfs ?_))
  dsimp only
  simp only [bne_self_eq_false, Bool.false_eq_true, if_false]
  have e2 : (l.map ent).toArray[j]? = some (ent l[j]) := by simp [hjl]
  rw [e2]
  refine wpAny_pure ?_
  show wpAny _ _ (setField (.ref I) 1 (rawInt (i + 1)) >>= _) _ _ _
  refine wpAny_bind (wpAny_setField_rec hit (by simp) fun h2 hit2 sb2 => ?_)
  refine wpAny_pure ⟨_, rfl, ?_⟩
  refine wpAny_pure ?_
  exact hQ h2 hit2 sb2

theorem sd_done {ep : Nat} {t : SetTable} {n : Nat} {Q : Option Value → Shared → Prop} (hh : A.handled = none) (hne : sa ≠ I) (hd : so.data = .set (l.map ent).toArray ep t) (hf : t.fits l.length = true) (hn : l.length = n) (hq : od.length = n)
    (hit : SetIter s.heap I (.ref T) n sa n ep) (ho : s.heap.get? sa = some so) (hT : s.heap.get? T = some (tupOf od))
    (hQ : ∀ h', (∀ b o, b ≠ I → s.heap.get? b = some o → h'.get? b = some o) → Q none { s with heap := h' }) :
    wpAny (model prog w) A (pyNext (.ref I)) Q E s := by
  have hTy : s.TypeIs (.ref I) "set_iterator" := ⟨_, hit, rfl⟩
  have hsz : (l.map ent).toArray.size = l.length := by simp
  have hfs : t.fits (l.map ent).toArray.size = true := by rw [hsz]; exact hf
  unfold pyNext
  refine wpAny_bind (wpAny_attempt (wpAny_callSpecial?_slot (name := Str.ofString "__next__") hTy slot_si_next (wpAny_call_entry slot_si_next hTy entry_si_next ?_ (args_si_next _))))
  unfold Builtin.«set_iterator.__next__» slotArgs
  simp only [List.isEmpty_nil, Bool.not_true, Bool.false_eq_true, ↓reduceIte, List.length_nil, bne_self_eq_false]
  refine wpAny_bind (wpAny_pure ?_)
  refine wpAny_bind (wpAny_fieldsOf hit rfl ?_)
  show wpAny _ _ (setEntries sa >>= _) _ _ _
  refine wpAny_bind (wpAny_setEntries_of ho hd hfs ?_)
  rw [if_neg (by rw [hsz, hn]; simp)]
  show wpAny _ _ (seqItems? (.ref T) >>= _) _ _ _
  refine wpAny_bind (wpAny_seqItems hT rfl ?_)
  have e : (od.map fun (i : Nat) => rawInt i).toArray[(n : Int).toNat]? = none := by
    show (od.map fun (i : Nat) => rawInt i).toArray[n]? = _
    simp; omega
  dsimp only
  rw [e]
  show wpAny _ _ (setField (.ref I) 0 (rawInt 0) >>= _) _ _ _
  refine wpAny_bind (wpAny_setField_rec hit (by simp) fun h0 hit0 sb0 => ?_)
  show wpAny _ _ (setField (.ref I) 2 .none >>= _) _ _ _
  refine wpAny_bind (wpAny_setField_rec (s := { s with heap := h0 }) hit0 (by simp) fun h1 hit1 sb1 => ?_)
  refine wpAny_bind ?_
  simp only [newExc, newTuple]
  refine wpAny_bind (wpAny_newObj_type ?_ (by size_fits))
  refine wpAny_bind (m := firstArgMember _ _) (wpAny_of_eq (a := Value.none) (by first | rfl | (simp only [firstArgMember]; rfl)) ?_)
  refine wpAny_newObj_type ?_ (by size_fits)
  simp only [raiseNew]
  refine wpAny_bind (wpAny_handled ?_)
  rw [show A.in1.handled = none from hh]
  refine wpAny_bind (wpAny_pure (wpAny_throw ?_))
  refine wpAny_bind (wpAny_isInstance (T := "StopIteration") (b := true) ⟨_, Heap.get?_push_size _ rfl, rfl⟩ isSubtype_stop ?_)
  exact wpAny_pure (hQ _ fun b o hb e => Heap.get?_push_of_some _ (Heap.get?_push_of_some _ (sb1.extBut b o hb (sb0.extBut b o hb e))))

theorem pick_all (l : List (Int × Tok)) : ∀ od : List Nat, (∀ j ∈ od, j < l.length) → od.filterMap (fun j => l[j]?) = od.map (fun j => l.getD j (0, 0))
  | [], _ => rfl
  | j :: r, h => by
    have hj := h j (.head _)
    rw [List.filterMap_cons, List.getElem?_eq_getElem hj, List.map_cons, pick_all l r fun i hi => h i (.tail _ hi)]
    simp [hj]
theorem sd_walks {ep : Nat} {t : SetTable} {n : Nat} {q : List (Int × Tok)} (hh : A.handled = none) (hne : sa ≠ I) (hTI : T ≠ I) (hd : so.data = .set (l.map ent).toArray ep t) (hf : t.fits l.length = true) (hn : l.length = n) (ho : od.Perm (List.range n)) (hq : q = od.filterMap fun j => l[j]?) :
    Walks prog w A I [I, sa, T] [I] n (fun i v => ∃ p, q[i]? = some p ∧ v = .int p.1 p.2) (fun i h => SetIter h I (.ref T) i sa n ep ∧ h.get? sa = some so ∧ h.get? T = some (tupOf od)) where
  sub := fun b hb => by simp at hb; simp [hb]
  frame := fun _ _ _ st hk => ⟨hk I (by simp) _ st.1, hk sa (by simp) _ st.2.1, hk T (by simp) _ st.2.2⟩
  item := fun i s Q E hi st hQ => by
    have hol : od.length = n := by rw [ho.length_eq, List.length_range]
    have hj : od[i]? = some od[i] := List.getElem?_eq_getElem (by omega)
    have hjl : od[i] < l.length := by
      have := List.mem_range.mp (ho.mem_iff.mp (List.getElem_mem (by omega : i < od.length)))
      omega
    have hall := pick_all l od fun j hjm => by
      have := List.mem_range.mp (ho.mem_iff.mp hjm)
      omega
    have hp : q[i]? = some l[od[i]] := by
      rw [hq, hall, List.getElem?_map, hj]
      simp [hjl]
    refine sd_item hne hd hf hn st.1 st.2.1 st.2.2 hj hjl fun h' hit' sb => ?_
    exact hQ _ h' s.toks ⟨_, hp, rfl⟩ ⟨hit', sb.extBut _ _ hne st.2.1, sb.extBut _ _ hTI st.2.2⟩ fun b o hb e => sb.extBut b o (fun h => hb (by simp [h])) e
  done := fun s Q E st hQ => sd_done hh hne hd hf hn (by rw [ho.length_eq, List.length_range]) st.1 st.2.1 st.2.2 fun h' he => hQ h' s.toks fun b o hb e => he b o (fun h => hb (by simp [h])) e
  self := fun _ _ _ _ st hQ => si_self st.1 hQ
theorem picked_perm {n : Nat} (hn : l.length = n) (ho : od.Perm (List.range n)) : (od.filterMap fun j => l[j]?).Perm l := by
  refine (ho.filterMap _).trans ?_
  subst hn
  rw [List.filterMap_getElem?_range_length]
end
end Mine
end
section
theorem Mine.reset_T8 : True := by
  w_top off
  exact trivial
open PySem PySem.W PyProof.Rows
set_option maxRecDepth 100000
set_option linter.unusedVariables false
namespace Mine
section
variable {prog : Program} {w : World} {A : Around} {E : Value → Shared → Prop} {s : Shared} {sa I : Addr} {so : Obj} {l : List (Int × Tok)}
/-- the iterator at I goes through the ints of l in some order -/
noncomputable def SetWalk (prog : Program) (w : World) (l : List (Int × Tok)) (sa : Addr) (n₀ : Nat) (h : Heap) (I : Addr) : Prop :=
  ∃ (fp : List Addr) (q : List (Int × Tok)) (St : Nat → Heap → Prop), q.Perm l ∧ (∀ A : Around, A.handled = none → Walks prog w A I fp [I] l.length (fun i v => ∃ p, q[i]? = some p ∧ v = .int p.1 p.2) St) ∧ St 0 h ∧ (∀ b ∈ fp, b < h.objs.size) ∧ I ∈ fp ∧ ∀ b ∈ fp, b = sa ∨ @LE.le Nat _ n₀ b

theorem set_iter {Q : Value → Shared → Prop} (ho : s.heap.get? sa = some so) (hs : SetG RN w so l) (hb : l.length < 1000)
    (h : ∀ I h' dr, SetWalk prog w l sa s.heap.objs.size h' I → (∀ b o, s.heap.get? b = some o → h'.get? b = some o) → s.heap.objs.size ≤ I → Q (.ref I) { s with heap := h', drawn := dr }) :
    wpAny (model prog w) A (pyIter (.ref sa)) Q E s := by
  have hT := hs.typeIs (s := s) ho
  obtain ⟨hex, ⟨ep, t, hd, hf, hled, hRN⟩, hnd⟩ := hs
  have hsz : (l.map ent).toArray.size = l.length := by simp
  have hfs : t.fits (l.map ent).toArray.size = true := by rw [hsz]; exact hf
  have hlt : @LT.lt Nat _ sa s.heap.objs.size := Heap.lt_size ho
  refine wpAny_pyIter_slot hT F.slot_set_iter (wpAny_call_entry F.slot_set_iter hT entry_set_iter ?_ (F.args_set_iter_1 _))
  unfold Builtin.«frozenset.__iter__» Builtin.Frozenset.slot0 slotArgs
  simp only [List.isEmpty_nil, Bool.not_true, Bool.false_eq_true, ↓reduceIte, bind_assoc, List.length_nil, bne_self_eq_false]
  unfold Builtin.Frozenset.addrOf Builtin.Frozenset.sizeOf
  refine wpAny_bind (wpAny_pure ?_)
  try dsimp only
  refine wpAny_bind (wpAny_pure ?_)
  refine wpAny_bind (wpAny_bind (wpAny_setEntries_of ho hd hfs (wpAny_pure ?_)))
  unfold setDrawn
  refine wpAny_bind (wpAny_bind (wpAny_setState_of ho hd hfs ?_))
  dsimp only
  unfold setsByText
  refine wpAny_bind (wpAny_bind (wpAny_askSetting (wpAny_pure (wpAny_pure ?_))))
  split
  · refine wpAny_bind (drawOrder_perm _ _ _ _ (by simp) fun od dr hp => ?_)
    rw [hsz] at hp
    refine wpAny_bind (wpAny_newObj_type ?_ (by show (od.map fun (i : Nat) => rawInt i).toArray.size ≤ sizeLine; rw [List.size_toArray, List.length_map, hp.length_eq, List.length_range, sizeLine_eq]; (first | lia | omega)))
    have ho1 : (s.heap.push (tupOf od)).get? sa = some so := Heap.get?_push_of_some _ ho
    refine wpAny_bind (wpAny_setEpoch_of ho1 hd hfs ?_)
    unfold newFields
    refine wpAny_bind (wpAny_newObj_type ?_ (by size_fits))
    refine wpAny_pure ⟨_, rfl, "set_iterator", _, ⟨_, Heap.get?_push_size _ rfl, rfl⟩, slot_si_next.lookup, ?_⟩
    have hs1 : (s.heap.push (tupOf od)).objs.size = s.heap.objs.size + 1 := size_push' _ _
    have hI : @Ne Nat (s.heap.push (tupOf od)).objs.size sa := by rw [hs1]; (first | lia | omega)
    rw [hsz]
    refine h _ _ dr ⟨[(s.heap.push (tupOf od)).objs.size, sa, s.heap.objs.size], od.filterMap fun j => l[j]?, _, picked_perm rfl hp, fun A hh => sd_walks hh (Ne.symm hI) (by rw [hs1]; exact Nat.ne_of_lt (Nat.lt_succ_self _)) hd hf rfl hp rfl, ⟨Heap.get?_push_size _ rfl, Heap.get?_push_of_some _ ho1, Heap.get?_push_of_some _ (Heap.get?_push_size _ rfl)⟩, ?_, by simp, fun b hb => by
      simp only [List.mem_cons, List.not_mem_nil, or_false, hs1] at hb
      rcases hb with e | e | e
      · have e' : @Eq Nat b _ := e; exact .inr (by (first | lia | omega))
      · exact .inl e
      · have e' : @Eq Nat b _ := e; exact .inr (by (first | lia | omega))⟩ (fun b o e => Heap.get?_push_of_some _ (Heap.get?_push_of_some _ e)) (by rw [hs1]; exact Nat.le_succ _)
    intro b hb
    rw [size_push', hs1]
    simp only [List.mem_cons, List.not_mem_nil, or_false, hs1] at hb
    refine ltN ?_
    rcases hb with e | e | e
    · have e' : @Eq Nat b _ := e; (first | lia | omega)
    · have e' : @Eq Nat b sa := e; (first | lia | omega)
    · have e' : @Eq Nat b _ := e; (first | lia | omega)
  · rename_i hc
    refine wpAny_bind (wpAny_pure ?_)
    refine wpAny_bind (wpAny_setEpoch_of ho hd hfs ?_)
    unfold newFields
    refine wpAny_bind (wpAny_newObj_type ?_ (by size_fits))
    refine wpAny_pure ⟨_, rfl, "set_iterator", _, ⟨_, Heap.get?_push_size _ rfl, rfl⟩, slot_si_next.lookup, ?_⟩
    have hI : @Ne Nat s.heap.objs.size sa := by (first | lia | omega)
    have key : ∃ q f, q.Perm l ∧ NextBy prog w sa so ep q f := by
      cases hbt : byText w with
      | true =>
        obtain ⟨q, hq, hN⟩ := nextBy_text (prog := prog) (sa := sa) hd hf hbt
        exact ⟨q, _, hq, hN⟩
      | false =>
        have hc' : ¬ ((!byText w) && (!t.plain && decide ((l.map ent).toArray.size > 1))) = true := hc
        rw [hbt, hsz] at hc'
        have hpl : t.plain = true ∨ l.length ≤ 1 := by
          cases hp : t.plain with
          | true => exact .inl rfl
          | false =>
            right
            apply Nat.le_of_not_lt
            intro hgt
            apply hc'
            rw [hp, decide_eq_true (by (first | lia | omega) : l.length > 1)]
            rfl
        have hps : t.place.size = l.length := by
          simp only [SetTable.fits, Bool.and_eq_true, beq_iff_eq] at hf
          exact hf.1
        have hx : Rise t.place := by
          rcases hpl with h1 | h1
          · exact (hRN h1).1
          · intro i j hij hj; (first | lia | omega)
        exact ⟨l, _, .rfl, nextBy_place hd hf hbt (hled hbt) hpl hx⟩
    obtain ⟨q, f, hq, hN⟩ := key
    rw [hsz]
    refine h _ _ s.drawn ⟨[s.heap.objs.size, sa], q, _, hq, fun A hh => si_walks hh (Ne.symm hI) hd hf rfl hq.length_eq hN, ⟨by show SetIter _ _ (rawInt (f 0)) _ _ _ _; rw [hN.1]; exact Heap.get?_push_size _ rfl, Heap.get?_push_of_some _ ho⟩, ?_, by simp, fun b hb => by
      simp only [List.mem_cons, List.not_mem_nil, or_false] at hb
      rcases hb with e | e
      · have e' : @Eq Nat b _ := e; exact .inr (by (first | lia | omega))
      · exact .inl e⟩ (fun b o e => Heap.get?_push_of_some _ e) (Nat.le_refl _)
    intro b hb
    rw [size_push']
    simp only [List.mem_cons, List.not_mem_nil, or_false] at hb
    refine ltN ?_
    rcases hb with e | e
    · have e' : @Eq Nat b _ := e; (first | lia | omega)
    · have e' : @Eq Nat b sa := e; (first | lia | omega)
end
end Mine
end
section
theorem Mine.reset_T9 : True := by
  w_top off
  exact trivial
open PySem PySem.W PyProof.Rows
set_option maxRecDepth 100000
set_option linter.unusedVariables false
namespace Mine
section
variable {prog : Program} {w : World} {A : Around} {E : Value → Shared → Prop} {s : Shared} {sa I : Addr} {so : Obj} {l : List (Int × Tok)}
abbrev vals (q : List (Int × Tok)) : List Value := q.map fun p => .int p.1 p.2
theorem items_vals {q : List (Int × Tok)} {acc : Array Value} (h : ItemsOf (fun i v => ∃ p, q[i]? = some p ∧ v = .int p.1 p.2) acc q.length) : acc.toList = vals q := by
  apply List.ext_getElem?
  intro i
  rw [Array.getElem?_toList, List.getElem?_map]
  rcases Nat.lt_or_ge i q.length with hi | hi
  · have hi2 : i < acc.size := by rw [h.1]; exact hi
    have e : acc[i]? = some acc[i] := by simp [hi2]
    obtain ⟨p, hp, hv⟩ := h.2 i _ e
    rw [e, hp, hv]; rfl
  · have e1 : acc[i]? = none := by
      have : acc.size ≤ i := by rw [h.1]; exact hi
      simp [this]
    rw [e1, List.getElem?_eq_none hi]; rfl

theorem collect_set {Q : List Value → Shared → Prop} (hh : A.handled = none) (ho : s.heap.get? sa = some so) (hs : SetG RN w so l) (hb : l.length < 1000)
    (hQ : ∀ q h' tk dr, q.Perm l → s.heap.objs.size ≤ h'.objs.size → (∀ b o, s.heap.get? b = some o → h'.get? b = some o) → Q (vals q) { s with heap := h', toks := tk, drawn := dr }) : wpAny (model prog w) A (collect (.ref sa)) Q E s := by
  have hlt : @LT.lt Nat _ sa s.heap.objs.size := Heap.lt_size ho
  unfold collect
  refine wpAny_bind (wpAny_runValue (codeAny_builtin F.entry_proto_collect ?_))
  rw [Around.under_plainId F.plain_proto_collect _]
  show wpAny _ A.in1 (newList [] >>= fun l => again (.builtin "list.__iadd__" ⟨[l, .ref sa], []⟩)) _ _ s
  refine wpAny_bind (wpAny_newObj_type ?_)
  refine wpAny_pure ⟨plainId_quiet F.plain_list_iadd _, codeAny_builtin F.entry_list_iadd ?_⟩
  rw [Around.under_plainId F.plain_list_iadd _]
  have ho1 : (s.heap.push { cls := .type "list", data := .seq ([] : List Value).toArray }).get? sa = some so := Heap.get?_push_of_some _ ho
  have hT1 := hs.typeIs (s := { s with heap := s.heap.push { cls := .type "list", data := .seq ([] : List Value).toArray } }) ho1
  show wpAny _ A.in1 (Builtin.List.listExtendWith (.ref s.heap.objs.size) (.ref sa) (.ref s.heap.objs.size)) _ _ _
  unfold Builtin.List.listExtendWith
  refine wpAny_bind (wpAny_typeOf hT1 ?_)
  have h1 : Builtin.List.listSameRef (.ref s.heap.objs.size) (.ref sa) = false := by
    have : @Ne Nat s.heap.objs.size sa := by (first | lia | omega)
    simp [Builtin.List.listSameRef, this]
  have h2 : (Value.type "set" == Value.type "list") = false := by decide
  have h3 : (Value.type "set" == Value.type "tuple") = false := by decide
  simp only [h1, h2, h3, Bool.or_false, Bool.false_eq_true, if_false]
  refine wpAny_bind (set_iter ho1 hs hb fun I h' dr W hk hI => ?_)
  obtain ⟨fp, q, St, hq, hW, hst, hfp, hIf, hfs⟩ := W
  have hW1 := (hW A.in1 (by exact hh)).toS
  refine wpAny_bind (wpAny_holding ?_)
  unfold Builtin.List.listLengthHint
  have ho2 : h'.get? sa = some so := hk _ _ ho1
  have hT2 := hs.typeIs (s := { s with heap := h', drawn := dr }) ho2
  refine wpAny_bind (wpAny_specialOf (name := Str.ofString "__len__") hT2 F.slot_set_len.lookup ?_)
  have hsp : splitId "set.__len__" = some ("set", "__len__") := by kernel_rfl
  dsimp only
  rw [hsp]
  show wpAny _ _ (isInstance (.ref sa) (.type "set") >>= _) _ _ _
  refine wpAny_bind (wpAny_isInstance hT2 sub_set_self ?_)
  rw [if_neg (by decide)]
  refine wpAny_ite_true (by decide +kernel) ?_
  refine wpAny_bind (wpAny_typeOf hT2 ?_)
  refine wpAny_pure ?_
  refine wpAny_ite_true (by decide +kernel) ?_
  refine wpAny_bind (wpAny_rule ?_)
  have hS₁ : h'.get? s.heap.objs.size = some { cls := .type "list", data := .seq ([] : List Value).toArray } := hk _ _ (Heap.get?_push_size _ rfl)
  refine wpAny_bind ?_
  show wpAny _ A.in1 (updateSeq s.heap.objs.size (·.push .none) >>= fun _ => updateSeq s.heap.objs.size (·.pop)) _ _ _
  refine wpAny_bind (wpAny_updateSeq hS₁ rfl ?_)
  have hS₂ := Heap.get?_update_self (Obj.mapSeq (·.push Value.none)) hS₁ rfl
  refine wpAny_updateSeq hS₂ rfl ?_
  have hS₃ := Heap.get?_update_self (Obj.mapSeq (·.pop)) hS₂ rfl
  have oth : ∀ b o, b ≠ s.heap.objs.size → h'.get? b = some o →
      ((h'.update s.heap.objs.size (Obj.mapSeq (·.push Value.none))).update s.heap.objs.size (Obj.mapSeq (·.pop))).get? b = some o :=
    fun b o hb e => (Heap.get?_update_other _ _ (Ne.symm hb)).trans ((Heap.get?_update_other _ _ (Ne.symm hb)).trans e)
  have hszp : (s.heap.push { cls := .type "list", data := .seq ([] : List Value).toArray }).objs.size = s.heap.objs.size + 1 := size_push' _ _
  have hSf : s.heap.objs.size ∉ fp := fun hm => by
    rcases hfs _ hm with e | e
    · have e' : @Eq Nat s.heap.objs.size sa := e
      (first | lia | omega)
    · have e' : @LE.le Nat _ (s.heap.push { cls := .type "list", data := .seq ([] : List Value).toArray }).objs.size s.heap.objs.size := e
      rw [hszp] at e'; (first | lia | omega)
  have hSI : s.heap.objs.size ≠ I := fun e => hSf (e ▸ hIf)
  refine wpAny_pure ⟨plainId_quiet F.plain_extend_loop _, codeAny_extend_loopS hW1 (by rw [sizeLine_eq]; (first | lia | omega)) _ hSf _ l.length 0 _ _ _ rfl (Nat.zero_le _)
    (hW1.frame 0 ({ s with heap := h', drawn := dr } : Shared) _ s.toks hst (Nat.le_refl _) fun b hb o e => oth b o (fun h => hSf (h ▸ hb)) e) hS₃ (ItemsOf.nil _) fun s' acc' c' hm hS' hacc => ?_⟩
  show wpAny _ A (load s.heap.objs.size >>= _) _ _ s'
  refine wpAny_bind (wpAny_load hS' ?_)
  rw [← hq.length_eq] at hacc
  have hv := items_vals hacc
  refine wpAny_pure ?_
  show Q acc'.toList s'
  rw [hv]
  obtain ⟨hp, g, d, tk, os⟩ := s'
  obtain ⟨m1, m2, m3, m4, m5⟩ := hm
  dsimp only at m1 m2 m3 m4 m5
  subst m2 m3 m4
  refine hQ q hp tk _ hq (Nat.le_of_lt (Heap.lt_size hS')) fun b o e => ?_
  have hbl : @LT.lt Nat _ b s.heap.objs.size := Heap.lt_size e
  have hbS : b ≠ s.heap.objs.size := fun e2 => by have e3 : @Eq Nat b s.heap.objs.size := e2; (first | lia | omega)
  refine m1 b o (fun hmem => ?_) (oth b o hbS (hk b o (Heap.get?_push_of_some _ e)))
  rcases List.mem_cons.mp hmem with e2 | e2
  · exact hbS e2
  · have e3 : @Eq Nat b I := List.mem_singleton.mp e2
    have e4 : @LE.le Nat _ (s.heap.push { cls := .type "list", data := .seq ([] : List Value).toArray }).objs.size I := hI
    rw [hszp] at e4
    (first | lia | omega)

theorem ints_vals : ∀ q : List (Int × Tok), IntsAre (vals q) (q.map (·.1))
  | [] => .nil
  | p :: r => .cons p.1 p.2 (ints_vals r)

theorem sorted_set {h₀ : Heap} {L : Addr} {m : Str → Option Value} {news : List (Addr × Obj)} {Q : Value → Shared → Prop} (Fm : Fr h₀ L s.heap m) (N : News h₀ L s.heap news)
    (hh : A.handled = none) (ho : s.heap.get? sa = some so) (hs : SetG RN w so l) (hb : l.length < 60)
    (h : ∀ D (h' : Heap) (vs : List Value) (ns : List Int) (e tk : Nat) dr, Fr h₀ L h' m → News h₀ L h' ((D, seqObj "list" vs.toArray e) :: news) → (∀ p ∈ news, p.1 < D) →
      IntsAre vs ns → ns.Perm (l.map (·.1)) → ns.Pairwise (· ≤ ·) → Q (.ref D) { s with heap := h', toks := tk, drawn := dr }) :
    wpAny (model prog w) A (call (.builtin "sorted") [.ref sa]) Q E s := by
  refine Calls.call_function_entry kind_sorted plain_sorted entry_sorted (args_sorted1 _) ?_
  unfold Builtin.«sorted»
  refine wpAny_bind (m := checkCount "sorted" 1 1 _) (wpAny_pure ?_)
  refine wpAny_bind (collect_set (by exact hh) ho hs (by (first | lia | omega)) fun q h1 tk dr hq hsz hk => ?_)
  refine wpAny_bind (wpAny_newList ?_ (by show (vals q).length ≤ _; rw [List.length_map, hq.length_eq, sizeLine_eq]; (first | lia | omega)))
  have hoL : (h1.push (seqObj "list" (vals q).toArray 0)).get? h1.objs.size = some (seqObj "list" (vals q).toArray 0) := Heap.get?_push_size _ rfl
  refine wpAny_bind (wpAny_holding (wpAny_call_entry slot_list_sort ⟨_, hoL, rfl⟩ entry_list_sort (list_sort_tree hoL (ints_vals q) (by rw [List.length_map, hq.length_eq]; (first | lia | omega)) fun out ns' a1 a2 a3 => ⟨_, rfl, ?_⟩) (args_list_sort _)))
  refine wpAny_pure ⟨_, rfl, ?_⟩
  obtain ⟨e, he⟩ := sortedHeap_at (out := out) hoL
  have hkk : ∀ b o, s.heap.get? b = some o → (sortedHeap (h1.push (seqObj "list" (vals q).toArray 0)) h1.objs.size (vals q) out).get? b = some o := fun b o eb => by
    have hb1 := hk b o eb
    have hl1 : b < h1.objs.size := Heap.lt_size hb1
    rw [sortedHeap_old (Nat.ne_of_lt hl1) (by rw [size_push']; exact Nat.lt_succ_of_lt hl1)]
    exact Heap.get?_push_of_some _ hb1
  exact h h1.objs.size _ out.toList ns' e tk dr (Fm.kept hkk) (N.kept_cons Fm hkk hsz he) (fun p hp => Heap.lt_size (hk _ _ (N p hp).1)) a1 (a2.trans (hq.map _)) a3
end
end Mine
end
section
theorem Mine.reset_T10 : True := by
  w_top off
  exact trivial
open PySem PySem.W PyProof.Rows
set_option maxRecDepth 100000
set_option linter.unusedVariables false
namespace Mine
/-! a list's iterator in the ledger; dicts of powers -/
abbrev listIt (D : Addr) (i : Nat) : Obj := { cls := .type "list_iterator", data := .fields #[.ref D, .int i 0] }
section
variable {prog : Program} {w : World} {A : Around} {E : Value → Shared → Prop} {s : Shared} {h₀ : Heap} {L D I : Addr} {m : Str → Option Value} {news : List (Addr × Obj)} {g : Obj → List (Addr × Obj)} {items : Array Value} {i : Nat} {io : Obj}
theorem iter_list {Q : Value → Shared → Prop} (Fm : Fr h₀ L s.heap m) (N : News h₀ L s.heap news) (hl : s.heap.IsList D items)
    (h : ∀ I h' io, Fr h₀ L h' m → News h₀ L h' ((I, io) :: news) → (∀ p ∈ news, p.1 < I) → io.cls = .type "list_iterator" → io.data = .fields #[.ref D, .int 0 0] → Q (.ref I) { s with heap := h' }) :
    wpAny (model prog w) A (call (.builtin "iter") [.ref D]) Q E s := by
  refine Calls.call_function_entry (by decide +kernel) (by decide +kernel) kdk_entry_iter (kdk_args_iter _) ?_
  unfold Builtin.«iter»
  refine wpAny_bind (m := someArgs "iter" 1 2 _) (wpAny_of_eq (a := [Value.ref D]) (by first | rfl | kernel_rfl!) ?_)
  show wpAny _ _ (pyIter (.ref D) >>= _) _ _ _
  refine wpAny_bind (wpAny_pyIter_list hl ?_)
  exact wpAny_pure ⟨_, rfl, h _ _ _ (Fm.push _) (News.push Fm N _ rfl) (fun q hq => Heap.lt_size (N q hq).1) rfl rfl⟩

theorem next_list {x : Value} {Q : Value → Shared → Prop} (Fm : Fr h₀ L s.heap m) (N : News h₀ L s.heap news) (U : UpdF I io news g) (hc : io.cls = .type "list_iterator") (hd : io.data = .fields #[.ref D, .int i 0]) (hl : s.heap.IsList D items) (hx : items[i]? = some x)
    (h : ∀ h' io', Fr h₀ L h' m → News h₀ L h' (g io') → io'.cls = .type "list_iterator" → io'.data = .fields #[.ref D, .int (i + 1 : Nat) 0] → Q x { s with heap := h' }) :
    wpAny (model prog w) A (call (.builtin "next") [.ref I]) Q E s := by
  obtain ⟨pre, post, rfl, hg, a, b⟩ := U.split
  have hm := N (I, io) (List.mem_append_right _ (.head _))
  have hit : s.heap.IsListIter I D i := ⟨io, hm.1, hc, hd⟩
  refine Calls.call_function_entry (by decide +kernel) (by decide +kernel) kdk_entry_next (kdk_args_next _) ?_
  unfold Builtin.«next»
  refine wpAny_bind (m := someArgs "next" 1 2 _) (wpAny_of_eq (a := [Value.ref I]) (by first | rfl | kernel_rfl!) ?_)
  dsimp only
  refine wpAny_bind (wpAny_specialOf (name := Str.ofString "__next__") hit.typeIs slot_listiter_next.lookup ?_)
  refine wpAny_ite_split (fun hab => absurd hab (by decide)) (fun _ => ?_)
  obtain ⟨ol, hol, _, nl, hdl⟩ := hl
  refine wpAny_bind (wpAny_callSpecial?_slot (name := Str.ofString "__next__") hit.typeIs slot_listiter_next
    (wpAny_call_entry slot_listiter_next hit.typeIs entry_listiter_next ?_ (args_listiter_next _)))
  show wpAny _ _ (field (.ref I) 0 >>= _) _ _ s
  refine wpAny_bind (wpAny_field hm.1 hd (x := .ref D) rfl ?_)
  show wpAny _ _ (if (Value.ref D == Value.none) = true then _ else _) _ _ s
  rw [if_neg (show ¬ ((Value.ref D == Value.none) = true) from Bool.false_ne_true)]
  show wpAny _ _ (field (.ref I) 1 >>= _) _ _ s
  refine wpAny_bind (wpAny_field hm.1 hd (x := .int i 0) rfl ?_)
  show wpAny _ _ (seqItems? (.ref D) >>= _) _ _ s
  refine wpAny_bind (wpAny_seqItems hol hdl ?_)
  simp only [Int.toNat_natCast, hx]
  refine wpAny_bind (wpAny_setField hm.1 hd (by simp) (wpAny_pure ⟨x, rfl, wpAny_pure ⟨_, rfl, ?_⟩⟩))
  have sb := Heap.SameBut.update s.heap I (Obj.mapFields (·.setIfInBounds 1 (rawInt ((i : Int) + 1))))
  refine h _ _ (Fm.change sb hm.2.1 hm.2.2) (hg _ ▸ N.setIn a b sb (Heap.get?_update_self _ hm.1 (Obj.isFreed_of_fields (Obj.data_mapFields hd _)))) ((Obj.cls_mapFields ..).trans hc) ?_
  rw [Obj.data_mapFields hd]; simp [rawInt]
end

/-- a walk that begins behind the first so many items -/
theorem walks_from {prog : Program} {w : World} {A : Around} {I : Addr} {fp wr : List Addr} {n : Nat} {P : Nat → Value → Prop} {St : Nat → Heap → Prop} (W : Walks prog w A I fp wr n P St) (k : Nat) (hk : k ≤ n) :
    Walks prog w A I fp wr (n - k) (fun i v => P (k + i) v) (fun i h => St (k + i) h) where
  sub := W.sub
  frame := fun i h h' st hf => W.frame _ h h' st hf
  item := fun i s Q E hi st hQ => W.item (k + i) s Q E (by (first | lia | omega)) st fun v h' tk hP st' hf => hQ v h' tk hP st' hf
  done := fun s Q E st hQ => W.done s Q E (by have e : k + (n - k) = n := by (first | lia | omega)
                                              rw [e] at st; exact st) hQ
  self := fun i s Q E st hQ => W.self _ s Q E st hQ

/-! powers of five by their exponents -/
noncomputable def PowL (kvs : List (Int × Value)) (ns : List Int) : Prop := kvs.map (·.1) = ns ∧ ∀ p ∈ kvs, 0 ≤ p.1 ∧ ∃ t, p.2 = .int (5 ^ p.1.toNat) t
theorem PowL.nil : PowL [] [] := ⟨rfl, fun p hp => nomatch hp⟩
theorem PowL.value {kvs : List (Int × Value)} {ns : List Int} (h : PowL kvs ns) {k : Int} (hk : k ∈ ns) : ∃ t, valueAt kvs k = some (.int (5 ^ k.toNat) t) := by
  obtain ⟨rfl, hv⟩ := h
  obtain ⟨p, hp, rfl⟩ := List.mem_map.mp hk
  unfold valueAt
  cases hf : kvs.find? (fun kv => kv.1 = p.1) with
  | none =>
    have := List.find?_eq_none.mp hf p hp
    simp at this
  | some q =>
    have h1 := List.find?_some hf
    have h2 := List.mem_of_find?_eq_some hf
    have e : q.1 = p.1 := by simpa using h1
    obtain ⟨_, t, ht⟩ := hv q h2
    exact ⟨t, by rw [← e]; simp [ht]⟩
theorem PowL.has {kvs : List (Int × Value)} {ns : List Int} (h : PowL kvs ns) (k : Int) : (valueAt kvs k).isSome = decide (k ∈ ns) := by
  by_cases hk : k ∈ ns
  · obtain ⟨t, e⟩ := h.value hk
    rw [e, decide_eq_true hk]; rfl
  · obtain ⟨rfl, hv⟩ := h
    rw [decide_eq_false hk]
    unfold valueAt
    cases hf : kvs.find? (fun kv => kv.1 = k) with
    | none => rfl
    | some q =>
      have h1 := List.find?_some hf
      have h2 := List.mem_of_find?_eq_some hf
      have e : q.1 = k := by simpa using h1
      exact absurd (e ▸ List.mem_map_of_mem h2) hk
theorem PowL.store {kvs : List (Int × Value)} {ns : List Int} (h : PowL kvs ns) {k : Int} {t : Tok} (hk : k ∉ ns) (h0 : 0 ≤ k) : stored kvs k (.int (5 ^ k.toNat) t) = kvs ++ [(k, .int (5 ^ k.toNat) t)] ∧ PowL (kvs ++ [(k, .int (5 ^ k.toNat) t)]) (ns ++ [k]) := by
  obtain ⟨rfl, hv⟩ := h
  constructor
  · unfold stored
    rw [if_neg]
    intro hc
    obtain ⟨q, hq, e⟩ := List.any_eq_true.mp hc
    have e' : q.1 = k := by simpa using e
    exact hk (e' ▸ List.mem_map_of_mem hq)
  · refine ⟨by simp, fun p hp => ?_⟩
    rcases List.mem_append.mp hp with q | q
    · exact hv p q
    · have : p = (k, .int (5 ^ k.toNat) t) := by simpa using q
      subst this
      exact ⟨h0, t, rfl⟩
theorem five_succ {k : Int} (h : 1 ≤ k) : (5 : Int) ^ (k - 1).toNat * 5 = 5 ^ k.toNat := by
  have e : k.toNat = (k - 1).toNat + 1 := by (first | lia | omega)
  rw [e, Int.pow_succ]
theorem five_sq {k : Int} (h : 0 ≤ k) : (5 : Int) ^ (k / 2).toNat * 5 ^ (k / 2).toNat = 5 ^ (2 * (k / 2)).toNat := by
  rw [← Int.pow_add]
  congr 1; (first | lia | omega)
theorem bits_five (k : Nat) : Builtin.Int.intBits ((5 : Int) ^ k) ≤ 3 * k + 1 := intBits_pow_le (by decide) k
end Mine
end
section
theorem Mine.reset_W2 : True := by
  w_top off
  exact trivial
open PySem PySem.W PySem.NumText PySem.Calls PyProof.Rows
set_option maxRecDepth 100000
set_option linter.unusedVariables false
namespace Mine
/-! int refuses a text -/
theorem wpC_mark {M : Model} {A : Around} {E : Value → Shared → Prop} {s : Shared} {own : List String} {e : Value} {Q : Unit → Shared → Prop} (h : Q () s) : wpC M A (markTheRefusal own e) Q E s := by
  intro Γ p hΓ hC
  unfold markTheRefusal
  rw [Sem.wp_bind']
  show Sem.wp M Γ (if pythonCodeMadeTheCall own (((Γ.code, p) :: Γ.below).map (·.1)) then _ else _) _ _ p s
  have e : pythonCodeMadeTheCall own (((Γ.code, p) :: Γ.below).map (·.1)) = false := by
    have : ((((Γ.code, p) :: Γ.below).map (·.1)).any Code.isCaller) = true := by
      rw [List.any_map, List.any_cons, Bool.or_eq_true]
      exact hC
    show (!((((Γ.code, p) :: Γ.below).map (·.1)).any Code.isCaller) && _ && _) = false
    rw [this]
    rfl
  rw [e]
  exact h
theorem special_none (x : PySem.Str) (u : Tok) {n : PySem.Str} (h : typeLookup (.type "str") n = pure none) : specialOf (.str x u) n = pure none := by
  show (typeOf (.str x u) >>= fun t => typeLookup t n) = pure none
  rw [show typeOf (.str x u) = pure (.type "str") from rfl, pure_bind, h]
theorem intObj_tree (x : PySem.Str) (u : Tok) : (int_private% "intFromObject") (.str x u) = (int_private% "intFromText") (.str x u) (numTextOf x) 10 := by
  have f3 := special_none x u KIN.str_int
  have f4 := special_none x u KIN.str_idx
  have f5 := special_none x u KIN.str_trunc
  show (callSpecial? (.str x u) "__int__" [] [] >>= _) = _
  rw [show callSpecial? (.str x u) "__int__" [] [] = pure none from by unfold callSpecial?; rw [f3, pure_bind], pure_bind]
  show (specialOf (.str x u) "__index__" >>= _) = _
  rw [f4, pure_bind]
  show (specialOf (.str x u) "__trunc__" >>= _) = _
  rw [f5, pure_bind]
  exact rfl
theorem intNew_tree (x : PySem.Str) (u : Tok) : ∃ k, Builtin.«int.__new__» ⟨[.type "int", .str x u], []⟩ = ((int_private% "intFromText") (.str x u) (numTextOf x) 10 >>= k) := by
  have f1 := F.conv_sub_int
  have f2 := F.madeHere_int
  have f7 : isType (.type "int") = pure true := rfl
  refine ⟨?k, Eq.trans (b := ?T) ?e1 ?e2⟩
  case e1 =>
    unfold Builtin.«int.__new__»
    simp only [f1, f2, f7, pure_bind, Bool.not_true, Bool.false_eq_true, if_false, List.length_cons, List.length_nil, List.isEmpty_nil, List.forIn_nil, List.head?_cons]
    rw [if_neg (by exact Bool.false_ne_true), if_neg (by decide)]
  case e2 =>
    show ((int_private% "intFromObject") (.str x u) >>= _) = _
    rw [intObj_tree]
theorem typeCall_tree (v : Value) : ∃ k, Builtin.«type.__call__» ⟨[.type "int", v], []⟩ = (holding [.builtin "int.__new__"] (call (.builtin "int.__new__") [.type "int", v] []) >>= k) := by
  have h1 := F.called_int.notType
  have h2 := F.called_int.canCreate
  refine ⟨?k, Eq.trans (b := ?T) ?e1 ?e2⟩

  case e1 =>
    unfold Builtin.«type.__call__»
    simp only [h1, h2, F.mro_int, F.called_int.made, F.typeCall_int_1, pure_bind, Bool.false_eq_true, if_false, List.isEmpty_cons]
    exact rfl
  case e2 => exact rfl
theorem refused_tail {prog : Program} {w : World} {A : Around} {E : Value → Shared → Prop} {s : Shared} {x : PySem.Str} {u : Tok} {Q : Value → Shared → Prop} {msg : PySem.Str} (hA : A.handled = none) (hm : msg.length ≤ 1000) (hl : (reprText x).length ≤ sizeLine)
    (hE : ∀ h' tk e, Heap.NewExc s.heap h' e "ValueError" → E (.ref e) { s with heap := h', toks := tk }) :
    wpC (model prog w) A (pyRepr (.str x u) >>= fun shown => mkStr (msg ++ ⟨shown.cps.extract 0 200⟩) >>= fun t => newExc (.type "ValueError") [t] >>= fun r => markTheRefusal ["int.__new__"] r >>= fun _ => raiseNew r) Q E s := by
  refine wpC_bindA (wpAny_pyRepr_str ?_ hl)
  have hb : (msg ++ ⟨(reprText x).cps.extract 0 200⟩ : PySem.Str).length ≤ sizeLine := by
    rw [sizeLine_eq]
    have e : (msg ++ ⟨(reprText x).cps.extract 0 200⟩ : PySem.Str).length = msg.length + ((reprText x).cps.extract 0 200).size := by
      show (msg.cps ++ (reprText x).cps.extract 0 200).size = _
      rw [Array.size_append]; rfl
    rw [e]
    have : ((reprText x).cps.extract 0 200).size ≤ 200 := by rw [Array.size_extract]; (first | lia | omega)
    (first | lia | omega)
  refine wpC_bindA (wpAny_mkStr ?_ hb)
  refine wpC_bindA (wpAny_newExc_plain plainExc_ValueError fun h' e hx => ?_)
  refine wpC_bind (wpC_mark (wpC_any (wpAny_raiseNew_none hA (hE _ _ _ ?_))))
  obtain ⟨h1, h2, t, h3, h4, h5⟩ := hx
  exact ⟨h1, h2, _, _, h3, rfl, rfl⟩
theorem text_refused {prog : Program} {w : World} {A : Around} {E : Value → Shared → Prop} {s : Shared} {x : PySem.Str} {u : Tok} {Q : Value → Shared → Prop} (hA : A.handled = none) (hd : s.heap.NoDigits)
    (hr : (int_private% "readNumeral") (numLimitOf x) 10 (numSeenOf x) = int_private% "Numeral.invalid") (hl : (reprText x).length ≤ sizeLine)
    (hE : ∀ h' tk e, Heap.NewExc s.heap h' e "ValueError" → E (.ref e) { s with heap := h', toks := tk }) :
    wpC (model prog w) A ((int_private% "intFromText") (.str x u) (numTextOf x) 10) Q E s := by
  show wpC _ _ (if (numSeenOf x).length ≤ 640 then _ else _) _ _ _
  by_cases hs : (numSeenOf x).length ≤ 640
  · rw [show numLimitOf x = 0 from if_pos hs] at hr
    rw [if_pos hs]
    try simp only [pure_bind]
    rw [hr]
    show wpC _ _ (rule "int.__new__.invalid-literal" >>= fun _ => _) _ _ _
    refine wpC_bindA (wpAny_rule ?_)
    exact refused_tail hA (by decide +kernel) hl hE
  · rw [show numLimitOf x = 4300 from if_neg hs] at hr
    rw [if_neg hs]
    refine wpC_bindA (digits_limit hd ?_)
    dsimp only
    rw [hr]
    show wpC _ _ (rule "int.__new__.invalid-literal" >>= fun _ => _) _ _ _
    refine wpC_bindA (wpAny_rule ?_)
    exact refused_tail hA (by decide +kernel) hl hE
section
variable {prog : Program} {w : World} {A : Around} {E : Value → Shared → Prop} {s : Shared} {Q : Value → Shared → Prop} {x : PySem.Str} {u : Tok}
theorem codeC_builtin {R : Result → Shared → Prop} {id : String} {args : Args} {b : Builtin} (hb : entryFor table id = some b)
    (h : wpC (model prog w) (A.under (.builtin id args)) (b args)
      (fun fin s' => match fin with | .done f => R (.ok f) s' | .again c' => c'.quiet = true ∧ codeC (model prog w) A c' R s') (fun e s' => R (.error e) s') s) :
    codeC (model prog w) A (.builtin id args) R s := by
  refine codeC_of_tree ?_
  show wpC _ _ (match entryFor table id with | some b => b args | none => unsupported ((withoutEnding? id "#data").getD id)) _ _ s
  rw [hb]; exact h
theorem codeC_call_builtin {R : Result → Shared → Prop} {id : String} {args : Args} {b : Builtin} (hq : plainId id = true) (hb : entryFor table id = some b) (hc : checkBuiltinCall id args = pure ())
    (h : wpC (model prog w) A.in1 (b args)
      (fun fin s' => match fin with | .done f => R (.ok f) s' | .again c' => c'.quiet = true ∧ codeC (model prog w) A c' R s') (fun e s' => R (.error e) s') s) :
    codeC (model prog w) A (.call (.builtin id) args) R s := by
  refine codeC_of_tree ?_
  show wpC _ A.in1 (do checkBuiltinCall id args; again (.builtin id args)) _ _ s
  rw [hc, pure_bind]
  refine wpC_pure ⟨plainId_quiet hq _, codeC_builtin hb ?_⟩
  rw [Around.under_plainId hq args]
  exact h
theorem call_int_bad (hA : A.handled = none) (hd : s.heap.NoDigits) (hbad : digits? 10 (core (numSeenOf x)) = none) (hl : (reprText x).length ≤ sizeLine)
    (hE : ∀ h' tk e, Heap.NewExc s.heap h' e "ValueError" → E (.ref e) { s with heap := h', toks := tk }) :
    wpC (model prog w) A (call (.type "int") [.str x u]) Q E s := by
  refine wpC_call (codeC_of_tree ?_)
  show wpC _ _ (callAny (.type "int") _) _ _ _
  refine wpC_pure ⟨Code.quiet_builtin _ (by decide +kernel), codeC_builtin F.entry_type_call ?_⟩
  rw [Around.under_plain (weight_type_call_type "int" [.str x u] []) (units_type_call_type "int" [.str x u] [])]
  obtain ⟨k, e⟩ := typeCall_tree (.str x u)
  rw [e]
  refine wpC_bind (wpC_holding (wpC_call (codeC_call_builtin F.called_int.plain F.entry_int_new (F.newCall_int_1 _) ?_)))
  obtain ⟨k2, e2⟩ := intNew_tree x u
  rw [e2]
  refine wpC_bind (text_refused hA hd ?_ hl hE)
  rw [readNumeral_ten, hbad]
  exact judge_none
end
/-! texts that int refuses -/
noncomputable def Dull (cs : List Nat) : Prop := ∀ c ∈ cs, (48 ≤ c ∧ c ≤ 57) ∨ c = 44 ∨ c = 46 ∨ c = 47 ∨ c = 58 ∨ c = 97
noncomputable def Foreign (c : Nat) : Prop := c = 44 ∨ c = 46 ∨ c = 47 ∨ c = 58 ∨ c = 97
theorem step_foreign {c : Nat} (h : Foreign c) (p : Array Nat × Bool) : NumText.step 10 p c = none := by
  rcases h with rfl | rfl | rfl | rfl | rfl <;> rfl
theorem fold_foreign : ∀ (cs : List Nat) (p : Array Nat × Bool), Dull cs → (∃ c ∈ cs, Foreign c) → cs.foldlM (NumText.step 10) p = none
  | [], _, _, h => by obtain ⟨c, hc, _⟩ := h; cases hc
  | c :: cs, p, hD, h => by
    rw [List.foldlM_cons]
    by_cases hf : Foreign c
    · rw [step_foreign hf]; rfl
    · cases hs : NumText.step 10 p c with
      | none => rfl
      | some q =>
        refine fold_foreign cs q (fun d hd => hD d (.tail _ hd)) ?_
        obtain ⟨d, hd, hF⟩ := h
        rcases List.mem_cons.mp hd with rfl | hd
        · exact absurd hF hf
        · exact ⟨d, hd, hF⟩
theorem dull_seen {x : PySem.Str} (h : Dull x.cps.toList) : numSeenOf x = x.cps.toList := by
  have e1 : numTextOf x = x.cps.toList := by
    refine if_pos ?_
    rw [← Array.all_toList, List.all_eq_true]
    intro c hc
    have := h c hc
    exact decide_eq_true (by (first | lia | omega))
  show (numTextOf x).takeWhile _ = _
  rw [e1]
  refine takeWhile_all fun c hc => ?_
  have := h c hc
  exact bne_iff_ne.mpr (by (first | lia | omega))
theorem dull_drop {cs : List Nat} (h : Dull cs) : cs.dropWhile blank = cs := by
  cases cs with
  | nil => rfl
  | cons c cs => exact dropWhile_of (by have := h c (.head _); (first | lia | omega))
theorem dull_core {cs : List Nat} (h : Dull cs) : core cs = cs := by
  unfold core
  rw [dull_drop h]
  have es : (sign cs).2 = cs := by
    cases cs with
    | nil => rfl
    | cons c cs =>
      have := h c (.head _)
      rw [sign_of (by (first | lia | omega)) (by (first | lia | omega))]
  rw [es, dull_drop (fun c hc => h c (List.mem_reverse.mp hc)), List.reverse_reverse]
theorem dull_bad {x : PySem.Str} (h : Dull x.cps.toList) (hf : x.cps.toList = [] ∨ ∃ c ∈ x.cps.toList, Foreign c) : digits? 10 (core (numSeenOf x)) = none := by
  rw [dull_seen h, dull_core h]
  rcases hf with e | hf
  · rw [e]; rfl
  · unfold digits?
    rw [fold_foreign _ _ h hf]; rfl
theorem dull_repr {x : PySem.Str} (h : Dull x.cps.toList) (hl : x.length ≤ 10000) : (reprText x).length ≤ sizeLine := by
  have := StrLaws.reprText_len x (fun c hc => by have := h c hc; (first | lia | omega))
  rw [sizeLine_eq]; (first | lia | omega)
end Mine
end
section
theorem Mine.reset_W3 : True := by
  w_top off
  exact trivial
open PySem PySem.W PySem.Calls PyProof.Rows
set_option maxRecDepth 100000
set_option linter.unusedVariables false
namespace Mine
/-! calls under wpC; a refusal that leaves a call -/
section
variable {prog : Program} {w : World} {A A₀ : Around} {s : Shared} {K : Frag} {L : Addr} {h₀ base : Heap} {m mg mb : PySem.Str → Option Value} {news : List (Addr × Obj)} {p : Program} {loose : List PySem.Str} {mean : ExcName → Option Value}
  {env : Env} {outer : List Env} {R : Result → Shared → Prop} {name qual : PySem.Str} {params : Arguments} {body : List Stmt} {scope : Scope} {cl : List (PySem.Str × Addr)} {dV kV doc pm cdv ct oc ctv : Value} {an od : Option Addr} {osl : Array (Option Value)} {f c' : Addr} {args : Args} {binds : List (PySem.Str × Value)} {fo : Obj}
theorem plainC (B : Below A₀ base outer h₀) (F : Fr h₀ L s.heap m) (N : News h₀ L s.heap news) (hlim : h₀.NoLimit) (hA : A.frames = some (env :: outer)) (hf : env.frame = some L) (hke : env.scope.kind = .function)
    (ho : s.heap.get? f = some fo) (hd : fo.data = .func (fnX name qual params body scope cl dV kV doc pm an cdv ct)) (hcd : s.heap.CodeRec cdv qual) (hroom : A.depth < recursionLimit)
    (hbind : BindsTo s (fnX name qual params body scope cl dV kV doc pm an cdv ct) args binds) (hloc : ∀ y ∈ binds, scope.names.lookup y.1 = some .local)
    (h : ∀ g L' h₁, Fr h₀ L g m → Fr g L' h₁ (fun y => binds.reverse.lookup y) → News g L' h₁ news → Below A base (env :: outer) g → h₀.StaysIn g → (∀ p ∈ news, p.1 < L') →
      wpC (model prog w) (A.deeper (envX qual scope L' f cdv cl)) (execs body (envX qual scope L' f cdv cl))
        (fun fl s' => LeaveK h₀ L m g R (match fl with | .ret v => v | _ => .none) s')
        (fun e s' => wpAny (model prog w) (A.deeper (envX qual scope L' f cdv cl)) (leaving (envX qual scope L' f cdv cl) e) (fun _ s'' => R (.error e) s'') (fun e' s'' => R (.error e') s'') s')
        { s with heap := h₁, toks := s.toks + binds.length })
    (hcell : ∀ x ∈ scope.names, x.2 ≠ .cell) (hco : scope.isCoroutine = false) (hgen : scope.isGenerator = false) (hk : scope.kind = .function) : codeC (model prog w) A (.call (.ref f) args) R s := by
  obtain ⟨FG, BG, st, lv⟩ := groundX (R := R) B F N hA hf hke
  refine codeC_call_function hroom ho hd hco hgen rfl hcd (hbind _ _ _ _ ?_)
  refine wpAny_newFunctionEnv hcell hloc (fun h₁ hns hsb => ⟨(hlim.keeps F.keep).fresh _ hsb, codeC_func ?_⟩) hk
  have hk₁ : ∀ b o, s.heap.get? b = some o → h₁.get? b = some o := fun b o e => hsb.extBut b o (Nat.ne_of_lt (Heap.lt_size e)) (Heap.get?_push_of_some _ e)
  exact wpC_mono (h _ s.heap.objs.size h₁ FG ⟨hns, fun b o e => hk₁ b o (of_hideAll _ e), Nat.le_of_eq (hideAll_size _ _)⟩
    (fun p hp => ⟨hk₁ _ _ (N p hp).1, Nat.ne_of_lt (Heap.lt_size (N p hp).1), hideAll_none _ (List.mem_map_of_mem hp)⟩) BG st (fun p hp => Heap.lt_size (N p hp).1)) (fun fl s' hl => lv _ _ hl) fun _ _ y => y
theorem cellsC (B : Below A₀ base outer h₀) (F : Fr h₀ L s.heap m) (N : News h₀ L s.heap news) (hlim : h₀.NoLimit) (hA : A.frames = some (env :: outer)) (hf : env.frame = some L) (hke : env.scope.kind = .function)
    (ho : s.heap.get? f = some fo) (hd : fo.data = .func (fnX name qual params body scope [] dV kV doc pm an cdv ct)) (hcd : s.heap.CodeRec cdv qual) (hroom : A.depth < recursionLimit)
    (hbind : BindsTo s (fnX name qual params body scope [] dV kV doc pm an cdv ct) args binds)
    (hkind : ∀ n, ∀ x ∈ binds, scope.names.lookup x.1 = some .local ∨ (scope.names.lookup x.1 = some .cell ∧ ((cellsFrom n scope.names []).lookup x.1).isSome = true))
    (hnd : ((cellsFrom 0 scope.names []).map (·.1)).Nodup)
    (h : ∀ g L' h₁ tk cells, Fr h₀ L g m → Fr g L' h₁ (bindL (envOfC qual scope L' f cdv).kindOf binds fun _ => none) → News g L' h₁ (cells ++ news) →
      CellsAre (bindC (envOfC qual scope L' f cdv).kindOf binds fun _ => none) (cellsFrom (L' + 1) scope.names []) cells → Below A base (env :: outer) g → h₀.StaysIn g → (∀ p ∈ news, p.1 < L') →
      wpC (model prog w) (A.deeper (envOfC qual scope L' f cdv)) (execs body (envOfC qual scope L' f cdv))
        (fun fl s' => LeaveK h₀ L m g R (match fl with | .ret v => v | _ => .none) s')
        (fun e s' => wpAny (model prog w) (A.deeper (envOfC qual scope L' f cdv)) (leaving (envOfC qual scope L' f cdv) e) (fun _ s'' => R (.error e) s'') (fun e' s'' => R (.error e') s'') s')
        { s with heap := h₁, toks := tk })
    (hco : scope.isCoroutine = false) (hgen : scope.isGenerator = false) (hk : scope.kind = .function) : codeC (model prog w) A (.call (.ref f) args) R s := by
  obtain ⟨FG, BG, st, lv⟩ := groundX (R := R) B F N hA hf hke
  refine codeC_call_function hroom ho hd hco hgen rfl hcd (hbind _ _ _ _ ?_)
  refine wpAny_newFunctionEnv_cells hk (hkind _) fun env' he s' x => ?_
  subst he
  refine ⟨(hlim.keeps F.keep).keeps x.toInCall.keep, codeC_func ?_⟩
  obtain ⟨h₁, tk, rfl, _⟩ := x.done
  have hk₁ := x.toInCall.keep
  obtain ⟨cells, NC, Y⟩ := Cl.news (h₀ := s.heap) (Nat.le_refl _) fun n c hm => ⟨x.cell n c (lookup_of_mem_nodup (cellsFrom_names scope.names 0 (s.heap.objs.size + 1) [] [] rfl ▸ hnd) hm), x.above n c hm⟩
  refine wpC_mono (h _ s.heap.objs.size h₁ tk cells FG ⟨x.toInCall.ns, fun b o e => hk₁ b o (of_hideAll _ e), Nat.le_of_eq (hideAll_size _ _)⟩ (fun p hp => ?_) Y BG st (fun p hp => Heap.lt_size (N p hp).1)) (fun fl s' hl => lv _ _ hl) fun _ _ y => y
  rcases List.mem_append.mp hp with hp | hp
  · refine ⟨(NC p hp).1, (NC p hp).2.1, ?_⟩
    cases q : (hideAll s.heap (news.map (·.1))).get? p.1 with
    | none => rfl
    | some o => have := of_hideAll _ q; rw [(NC p hp).2.2] at this; cases this
  · exact ⟨hk₁ _ _ (N p hp).1, Nat.ne_of_lt (Heap.lt_size (N p hp).1), hideAll_none _ (List.mem_map_of_mem hp)⟩
theorem defC (B : Below A₀ base outer h₀) (F : Fr h₀ L s.heap m) (X₀ : K.In h₀) (N : News h₀ L s.heap news) (T : Top p loose mean mg mb h₀) (hA : A.frames = some (env :: outer)) (hf : env.frame = some L) (hke : env.scope.kind = .function)
    (ho : K.lookup f = some ⟨oc, od, .func (fnOf name qual params body scope dV kV doc pm an cdv ct), osl⟩) (hcd : codeIn K cdv qual = true) (hroom : A.depth < recursionLimit)
    (hbind : BindsTo s (fnOf name qual params body scope dV kV doc pm an cdv ct) args binds) (hloc : ∀ y ∈ binds, scope.names.lookup y.1 = some .local)
    (h : ∀ g L' h₁, Fr h₀ L g m → Fr g L' h₁ (fun y => binds.reverse.lookup y) → News g L' h₁ news → Below A base (env :: outer) g → K.In g → Top p loose mean mg mb g →
      wpC (model prog w) (A.deeper (envOf qual scope L' f cdv)) (execs body (envOf qual scope L' f cdv))
        (fun fl s' => LeaveK h₀ L m g R (match fl with | .ret v => v | _ => .none) s')
        (fun e s' => wpAny (model prog w) (A.deeper (envOf qual scope L' f cdv)) (leaving (envOf qual scope L' f cdv) e) (fun _ s'' => R (.error e) s'') (fun e' s'' => R (.error e') s'') s')
        { s with heap := h₁, toks := s.toks + binds.length })
    (hco : scope.isCoroutine = false) (hgen : scope.isGenerator = false) (hk : scope.kind = .function)
    (hcell : ∀ x ∈ scope.names, x.2 ≠ .cell) : codeC (model prog w) A (.call (.ref f) args) R s :=
  plainC (cl := []) B F N T.nolimit hA hf hke ((X₀.keeps F.keep) _ _ ho) rfl (codeRec_of (X₀.keeps F.keep) hcd) hroom hbind hloc (fun g L' h₁ FG F' N' B' st _ => h g L' h₁ FG F' N' B' (X₀.keeps st) (T.keeps st)) hcell hco hgen hk
theorem defCC (B : Below A₀ base outer h₀) (F : Fr h₀ L s.heap m) (X₀ : K.In h₀) (N : News h₀ L s.heap news) (T : Top p loose mean mg mb h₀) (hA : A.frames = some (env :: outer)) (hf : env.frame = some L) (hke : env.scope.kind = .function)
    (ho : K.lookup f = some ⟨oc, od, .func (fnOf name qual params body scope dV kV doc pm an cdv ct), osl⟩) (hcd : codeIn K cdv qual = true) (hroom : A.depth < recursionLimit)
    (hbind : BindsTo s (fnOf name qual params body scope dV kV doc pm an cdv ct) args binds) (hkind : (binds.all fun y => scope.names.lookup y.1 == some .local || scope.names.lookup y.1 == some .cell) = true)
    (hnd : ((cellsFrom 0 scope.names []).map (·.1)).Nodup)
    (h : ∀ g L' h₁ tk cells, Fr h₀ L g m → Fr g L' h₁ (bindL (envOfC qual scope L' f cdv).kindOf binds fun _ => none) → News g L' h₁ (cells ++ news) →
      CellsAre (bindC (envOfC qual scope L' f cdv).kindOf binds fun _ => none) (cellsFrom (L' + 1) scope.names []) cells → Below A base (env :: outer) g → K.In g → Top p loose mean mg mb g → (∀ p ∈ news, p.1 < L') →
      wpC (model prog w) (A.deeper (envOfC qual scope L' f cdv)) (execs body (envOfC qual scope L' f cdv))
        (fun fl s' => LeaveK h₀ L m g R (match fl with | .ret v => v | _ => .none) s')
        (fun e s' => wpAny (model prog w) (A.deeper (envOfC qual scope L' f cdv)) (leaving (envOfC qual scope L' f cdv) e) (fun _ s'' => R (.error e) s'') (fun e' s'' => R (.error e') s'') s')
        { s with heap := h₁, toks := tk })
    (hco : scope.isCoroutine = false) (hgen : scope.isGenerator = false) (hk : scope.kind = .function) : codeC (model prog w) A (.call (.ref f) args) R s :=
  cellsC B F N T.nolimit hA hf hke ((X₀.keeps F.keep) _ _ ho) rfl (codeRec_of (X₀.keeps F.keep) hcd) hroom hbind (kindsX hkind) hnd (fun g L' h₁ tk cells FG F' N' Y B' st l => h g L' h₁ tk cells FG F' N' Y B' (X₀.keeps st) (T.keeps st) l) hco hgen hk
theorem nestC (B : Below A₀ base outer h₀) (F : Fr h₀ L s.heap m) (X₀ : K.In h₀) (N : News h₀ L s.heap news) (T : Top p loose mean mg mb h₀) (hA : A.frames = some (env :: outer)) (hf : env.frame = some L) (hke : env.scope.kind = .function)
    (ho : (f, fnMade name qual params body scope cl doc pm c' ctv) ∈ news) (hcd : s.heap.CodeRec (.ref c') qual) (hroom : A.depth < recursionLimit)
    (hbind : BindsTo s (fnX name qual params body scope cl .none .none doc pm none (.ref c') ctv) args binds) (hloc : ∀ y ∈ binds, scope.names.lookup y.1 = some .local)
    (h : ∀ g L' h₁, Fr h₀ L g m → Fr g L' h₁ (fun y => binds.reverse.lookup y) → News g L' h₁ news → Below A base (env :: outer) g → K.In g → Top p loose mean mg mb g →
      wpC (model prog w) (A.deeper (envX qual scope L' f (.ref c') cl)) (execs body (envX qual scope L' f (.ref c') cl))
        (fun fl s' => LeaveK h₀ L m g R (match fl with | .ret v => v | _ => .none) s')
        (fun e s' => wpAny (model prog w) (A.deeper (envX qual scope L' f (.ref c') cl)) (leaving (envX qual scope L' f (.ref c') cl) e) (fun _ s'' => R (.error e) s'') (fun e' s'' => R (.error e') s'') s')
        { s with heap := h₁, toks := s.toks + binds.length })
    (hco : scope.isCoroutine = false) (hgen : scope.isGenerator = false) (hk : scope.kind = .function)
    (hcell : ∀ x ∈ scope.names, x.2 ≠ .cell) : codeC (model prog w) A (.call (.ref f) args) R s :=
  plainC (cl := cl) B F N T.nolimit hA hf hke (N _ ho).1 rfl hcd hroom hbind hloc (fun g L' h₁ FG F' N' B' st _ => h g L' h₁ FG F' N' B' (X₀.keeps st) (T.keeps st)) hcell hco hgen hk
end
/-- an error in flight, seen from the frame L that stands on top of l -/
noncomputable def Thrown (base h₀ : Heap) (L : Addr) (m : PySem.Str → Option Value) (l : List Env) (news : List (Addr × Obj)) (e : Value) (h : Heap) : Prop :=
  ∃ a g, e = .ref a ∧ Fr h₀ L g m ∧ g.UpToSlots h ∧ RaisedSN base g l a (.type "ValueError") news h
theorem Thrown.less {base h₀ h : Heap} {L : Addr} {m : PySem.Str → Option Value} {l : List Env} {e : Value} {news news' : List (Addr × Obj)} (x : Thrown base h₀ L m l news e h) (hs : ∀ q ∈ news', q ∈ news) : Thrown base h₀ L m l news' e h :=
  let ⟨a, g, h1, h2, h3, B, a0, k1, k2, k3, k4⟩ := x; ⟨a, g, h1, h2, h3, B, a0, k1, k2, fun q hq => k3 q (hs q hq), k4⟩
theorem frame_mem {env : Env} {L b : Addr} {outer : List Env} (hf : env.frame = some L) (hm : b ∈ (env :: outer).filterMap (·.frame)) : b = L ∨ b ∈ outer.filterMap (·.frame) := by
  obtain ⟨en, he, hfe⟩ := List.mem_filterMap.mp hm
  rcases List.mem_cons.mp he with rfl | he
  · rw [hf] at hfe; exact .inl (Option.some.inj hfe).symm
  · exact .inr (List.mem_filterMap.mpr ⟨en, he, hfe⟩)
section
variable {M : Model} {A : Around} {E : Value → Shared → Prop} {s' : Shared} {base g h h₀ : Heap} {outer : List Env} {L L' a : Addr} {m m' : PySem.Str → Option Value} {env env' : Env} {Q : Unit → Shared → Prop} {news : List (Addr × Obj)} {e : Value}
theorem left_new (K : Below A base (env :: outer) g) (FG : Fr h₀ L g m) (F : Fr g L' h m') (N : News g L' h news) (hx : Heap.NewExc h s'.heap a "ValueError") (hf : env'.frame = some L') (hk : env'.scope.kind = .function)
    (hQ : ∀ h', Thrown base h₀ L m (env :: outer) news (.ref a) h' → Q () { s' with heap := h' }) : wpAny M (A.deeper env') (leaving env' (.ref a)) Q E s' := by
  have K' := pushX K F hf hk
  have hin : ∀ en ∈ (env' :: env :: outer), ∀ b, en.frame = some b → b ∈ (env' :: env :: outer).filterMap (·.frame) := fun en he b hb => List.mem_filterMap.mpr ⟨en, he, hb⟩
  have st : base.StaysIn (hideAll h ((env' :: env :: outer).filterMap (·.frame))) := fun b o q => hideAll_get _ (K'.stays b o q) fun hm => by
    rw [(K'.frames.mem hm).1] at q; cases q
  have sg : ∀ b o, g.get? b = some o → b ∉ (env :: outer).filterMap (·.frame) → (hideAll h ((env' :: env :: outer).filterMap (·.frame))).get? b = some o := fun b o q nm => hideAll_get _ (F.keep b o q) fun hm => by
    rcases frame_mem hf hm with z | z
    · rw [z, kts_self F] at q
      cases q
    · exact nm z
  have hl : ∀ q ∈ news, (hideAll h ((env' :: env :: outer).filterMap (·.frame))).get? q.1 = some q.2 ∧ g.get? q.1 = none ∧ base.get? q.1 = none := fun q hq => by
    refine ⟨hideAll_get _ (N q hq).1 fun hm => ?_, (N q hq).2.2, fresh_of_stays K.stays (N q hq).2.2⟩
    obtain ⟨en, he, hfe⟩ := List.mem_filterMap.mp hm
    rcases List.mem_cons.mp he with rfl | he
    · rw [hf] at hfe
      exact (N q hq).2.1 (Option.some.inj hfe).symm
    · obtain ⟨o, ho, _⟩ := (K.frames.mem (List.mem_filterMap.mpr ⟨en, he, hfe⟩)).2
      rw [(N q hq).2.2] at ho; cases ho
  obtain ⟨ob, tp, he, hcls, hd⟩ := hx.there
  have hen : (hideAll h ((env' :: env :: outer).filterMap (·.frame))).get? a = none := by
    cases q : (hideAll h ((env' :: env :: outer).filterMap (·.frame))).get? a with
    | none => rfl
    | some o => have := of_hideAll _ q; rw [hx.new] at this; cases this
  refine wpAny_leaving_firstW (a0 := tp) K'.stack ((funFrames_hide K'.frames hin).of_keeps fun b o hb _ => ⟨o, hx.keeps b o hb, rfl⟩) hf he (fun b o hb => hx.keeps b o (of_hideAll _ hb)) hen hd rfl rfl fun h' hL => ?_
  obtain ⟨k1, ⟨_, _, k2⟩, k3, k4⟩ := hL
  exact hQ h' ⟨a, g, rfl, FG, ((Heap.UpToSlots.of_keeps F.keep).trans (Heap.UpToSlots.of_keeps hx.keeps)).trans k4, _, tp, st, sg, hl, k1, hen, k2, by rw [← hcls]; exact k3⟩
theorem left_on (K : Below A base (env :: outer) g) (FG : Fr h₀ L g m) (R : Thrown base g L' m' (env' :: env :: outer) news e s'.heap) (hf : env'.frame = some L')
    (hQ : ∀ h', Thrown base h₀ L m (env :: outer) news e h' → Q () { s' with heap := h' }) : wpAny M (A.deeper env') (leaving env' e) Q E s' := by
  obtain ⟨a, g₂, rfl, F, hsm, B, a0, hB, hBG, hl, hfl⟩ := R
  exact wpAny_leaves_onW (Around.frames_deeper K.stack) hf hfl fun h' x1 x2 => hQ h' ⟨a, g, rfl, FG, (Heap.UpToSlots.of_keeps F.keep).trans (hsm.trans x2), B, a0, hB, fun b o q nm => hBG b o (F.keep b o q) (fun hm => by
      rcases frame_mem hf hm with z | z
      · rw [z, kts_self F] at q
        cases q
      · exact nm z), fun q hq => ⟨(hl q hq).1, kts_none F.keep (hl q hq).2.1, (hl q hq).2.2⟩, x1⟩
end
section
variable {prog : Program} {w : World} {A A₀ : Around} {s : Shared} {K : Frag} {L a : Addr} {h₀ base : Heap} {m mg mb : PySem.Str → Option Value} {news : List (Addr × Obj)} {p : Program} {loose : List PySem.Str} {mean : ExcName → Option Value}
  {cn : PySem.Str} {cs : Scope} {ccd : Value} {R : Result → Shared → Prop} {name qual : PySem.Str} {params : Arguments} {body : List Stmt} {scope : Scope} {dV kV doc pm cdv ct oc : Value} {an od : Option Addr} {osl : Array (Option Value)} {f : Addr} {args : Args} {binds : List (PySem.Str × Value)}
theorem enterX {env : Env} {outer : List Env} (B : Below A₀ base outer h₀) (F : Fr h₀ L s.heap m) (N : News h₀ L s.heap news) (hA : A.frames = some (env :: outer)) (hf : env.frame = some L) (hck : env.scope.kind = .function) :
    ∃ oL es ep, (hideAll s.heap (news.map (·.1))).get? L = some oL ∧ oL.data = .dict es ep ∧ (∀ h', h'.get? L = some oL → Heap.Ns h' L m) ∧ (∀ (sl : Array (Option Value)) h', h'.get? L = some { oL with slots := sl } → Heap.Ns h' L m) ∧
      h₀.StaysIn (hideAll s.heap (news.map (·.1))) ∧ Below A base (env :: outer) (hideAll s.heap (news.map (·.1))) := by
  have nm : ∀ b o, h₀.get? b = some o → b ∉ news.map (·.1) := fun b o e q => by
    obtain ⟨p, hp, rfl⟩ := List.mem_map.mp q
    rw [(N p hp).2.2] at e; cases e
  have st : h₀.StaysIn (hideAll s.heap (news.map (·.1))) := fun b o e => hideAll_get _ (F.keep b o e) (nm b o e)
  obtain ⟨oL, es, ep, hL, hLd, hLk, hLf⟩ := F.ns
  have nL : L ∉ news.map (·.1) := fun q => by
    obtain ⟨p, hp, e⟩ := List.mem_map.mp q
    exact (N p hp).2.1 e
  have hLg := hideAll_get (news.map (·.1)) hL nL
  have B₁ := pushX B F hf hck
  exact ⟨oL, es, ep, hLg, hLd, fun h' e => ⟨oL, es, ep, e, hLd, hLk, hLf⟩, fun sl h' e => ⟨_, es, ep, e, hLd, hLk, hLf⟩, st, ⟨hA, fun b o e => st b o (B.stays b o e), funFrames_hideAll B₁.frames fun en he b hb hfe => by
    cases he with
    | head => rw [hf] at hfe; exact nL ((Option.some.inj hfe : L = b) ▸ hb)
    | tail _ he =>
      obtain ⟨L₁, o₁, hf₁, ho₁⟩ := funFrames_in B.frames en he
      rw [hf₁] at hfe
      exact nm L₁ o₁ ho₁ ((Option.some.inj hfe : L₁ = b) ▸ hb)⟩⟩
theorem defCS0 {env : Env} (B : Below A₀ base [] h₀) (F : Fr h₀ L s.heap m) (X₀ : K.In h₀) (N : News h₀ L s.heap news) (T : Top p loose mean mg mb h₀) (hA : A.frames = some [env]) (hf : env.frame = some L)
    (ho : K.lookup f = some ⟨oc, od, .func (fnOf name qual params body scope dV kV doc pm an cdv ct), osl⟩) (hcd : codeIn K cdv qual = true) (hroom : A.depth < recursionLimit)
    (hbind : BindsTo s (fnOf name qual params body scope dV kV doc pm an cdv ct) args binds) (hloc : ∀ y ∈ binds, scope.names.lookup y.1 = some .local)
    (h : ∀ g L' h₁, Fr h₀ L g m → Fr g L' h₁ (fun y => binds.reverse.lookup y) → News g L' h₁ news → Below A base [env] g → K.In g → Top p loose mean mg mb g → KtsDicts ([env].filterMap (·.frame)) g →
      wpC (model prog w) (A.deeper (envOf qual scope L' f cdv)) (execs body (envOf qual scope L' f cdv))
        (fun fl s' => LeaveS0 ([env].filterMap (·.frame)) h₀ L m g R (match fl with | .ret v => v | _ => .none) s')
        (fun e s' => wpAny (model prog w) (A.deeper (envOf qual scope L' f cdv)) (leaving (envOf qual scope L' f cdv) e) (fun _ s'' => R (.error e) s'') (fun e' s'' => R (.error e') s'') s')
        { s with heap := h₁, toks := s.toks + binds.length })
    (hck : env.scope.kind = .function) (hco : scope.isCoroutine = false) (hgen : scope.isGenerator = false) (hk : scope.kind = .function)
    (hcell : ∀ x ∈ scope.names, x.2 ≠ .cell) : codeC (model prog w) A (.call (.ref f) args) R s := by
  have X := X₀.keeps F.keep
  obtain ⟨oL, es, ep, hLg, hLd, hN, hNs, st, B₂⟩ := enterX B F N hA hf hck
  refine codeC_call_function hroom (X _ _ ho) rfl hco hgen rfl (codeRec_of X hcd) (hbind _ _ _ _ ?_)
  refine wpAny_newFunctionEnv hcell hloc (fun h₁ hns hsb => ⟨(T.nolimit.keeps F.keep).fresh _ hsb, codeC_func ?_⟩) hk
  have hk₁ : ∀ b o, s.heap.get? b = some o → h₁.get? b = some o := fun b o e => hsb.extBut b o (Nat.ne_of_lt (Heap.lt_size e)) (Heap.get?_push_of_some _ e)
  refine wpC_mono (h _ s.heap.objs.size h₁ ⟨hN _ hLg, st, F.above⟩ ⟨hns, fun b o e => hk₁ b o (of_hideAll _ e), Nat.le_of_eq (hideAll_size _ _)⟩
    (fun p hp => ⟨hk₁ _ _ (N p hp).1, Nat.ne_of_lt (Heap.lt_size (N p hp).1), hideAll_none _ (List.mem_map_of_mem hp)⟩) B₂ (X₀.keeps st) (T.keeps st) (fun b hb => by
      rcases frame_mem hf hb with rfl | z
      · exact ⟨oL, es, ep, hLg, hLd⟩
      · simp at z)) (fun fl s' hl => ?_) fun _ _ y => y
  obtain ⟨g', L', m', news', T', F', N', k⟩ := hl
  have nL₀ : h₀.get? L = none := kts_self F
  obtain ⟨sl, hs⟩ := T'.up hLg
  refine k ⟨hNs sl _ (F'.keep _ _ hs), fun b o e => F'.keep b o (T'.other b o (st b o e) (fun q => by
    rcases frame_mem hf q with z | z
    · rw [z, nL₀] at e
      cases e
    · simp at z)), F.above⟩ fun p hp => ⟨(N' p hp).1, fun q => ?_, ?_⟩
  · have := (N' p hp).2.2; rw [q, hs] at this; cases this
  · cases q : h₀.get? p.1 with
    | none => rfl
    | some o =>
      obtain ⟨sl', hs'⟩ := T'.up (st _ _ q)
      have := (N' p hp).2.2
      rw [hs'] at this
      cases this
end
end Mine
end
section
theorem Mine.reset_W4 : True := by
  w_top off
  exact trivial
open PySem PySem.W PySem.Calls PyProof.Rows
set_option maxRecDepth 100000
set_option linter.unusedVariables false
namespace Mine
/-! the law's own call under wpC -/
theorem codeC_mono {M : Model} {A : Around} {c : Code} {R R' : Result → Shared → Prop} {s : Shared} (h : codeC M A c R s) (hR : ∀ r s, R r s → R' r s) : codeC M A c R' s := fun Γ p hc hΓ hC => wpCode_mono hR (h Γ p hc hΓ hC)
theorem enter_callC {M : Model} {A : Around} {s : Shared} {f : Value} {pos : List Value} {kw : List (PySem.Str × Value)} {c : ClaimW} {cl : PySem.Str → Option Addr} {mean : ExcName → Option Value} {args : List WData} {s₁ : Shared}
    (h : codeC M A (.call f ⟨pos, kw⟩) (GoodWG c cl mean args s₁) s) : wpC M A (PySem.call f pos kw) (fun v s' => GoodWG c cl mean args s₁ (.ok (.ret v)) s') (fun e s' => GoodWG c cl mean args s₁ (.error e) s') s :=
  wpC_call (codeC_mono h fun res s' g => by rcases g.1 with ⟨v, _, _, rfl, _⟩ | ⟨e, _, _, rfl, _⟩ <;> exact g)
theorem goodG_of {s' s₁ : Shared} {cw : ClaimW} {cl : PySem.Str → Option Addr} {mean : ExcName → Option Value} {args : List WData} {tabs : List (Addr × Addr)} {f : Flow} (prog : Program) (w : World) (hT : TabsAt tabs s₁.heap) (hr : ∀ a x, cw.raises a x = false)
    (h : GoodW cw cl mean args { s₁ with heap := ghostOf s₁.heap tabs } (.ok f) s' ∧ GrownAll tabs s'.heap) : GoodWG cw cl mean args s₁ (.ok f) s' := by
  have k := kn_post (M := ⟨fun _ => pure (.done f), prog, w⟩) (A := callerA) (cd := .builtin "x" {}) (s := s') hT hr (codeAny_of_tree (wpAny_pure h))
  have hB : (⟨.builtin "x" {}, none, none, [], none⟩ : Ctx).Below callerA := ⟨rfl, Nat.zero_le _, fun l hl => Option.some.inj hl, fun l hl => Option.some.inj hl, Nat.zero_le _⟩
  have k1 := k ⟨.builtin "x" {}, none, none, [], none⟩ default rfl hB
  rw [wpCode_iff_wp] at k1
  exact k1
/-- what the law hands back: True, the heap grown by new things and the code's table -/
theorem post_C {M : Model} {A : Around} {cd : Code} {s s₁ : Shared} {cw : ClaimW} {cl : PySem.Str → Option Addr} {mean : ExcName → Option Value} {args : List WData} {tabs : List (Addr × Addr)} (prog : Program) (w : World) (hT : TabsAt tabs s₁.heap) (hr : ∀ a x, cw.raises a x = false)
    (h : codeC M A cd (fun r s' => ∃ f, r = .ok f ∧ GoodW cw cl mean args { s₁ with heap := ghostOf s₁.heap tabs } r s' ∧ GrownAll tabs s'.heap) s) : codeC M A cd (GoodWG cw cl mean args s₁) s :=
  codeC_mono h fun r s' ⟨f, e, k⟩ => by subst e; exact goodG_of prog w hT hr k
theorem cellsN_C {prog : Program} {w : World} {A : Around} {R : Result → Shared → Prop} {s : Shared} {name : PySem.Str} {params : Arguments} {body : List Stmt} {scope : Scope}
    {pm cd doc : Value} {a : Addr} {o : Obj} {args : List Value} {binds : List (PySem.Str × Value)}
    (hroom : A.depth < recursionLimit) (ho : s.heap.get? a = some o) (hdata : o.data = .func (Calls.docDef name params body scope pm cd doc)) (hlim : s.heap.NoLimit) (hcd : s.heap.CodeRec cd name)
    (hbind : bindArgs (Calls.docDef name params body scope pm cd doc) ⟨args, []⟩ = pure binds)
    (hkind : ∀ x ∈ binds, scope.names.lookup x.1 = some .local ∨ (scope.names.lookup x.1 = some .cell ∧ ((cellsFrom (s.heap.objs.size + 1) scope.names []).lookup x.1).isSome = true))
    (hnd : ((cellsFrom 0 scope.names []).map (·.1)).Nodup)
    (h : ∀ h₁ tk cells, Fr s.heap s.heap.objs.size h₁ (bindL (envOfC name scope s.heap.objs.size a cd).kindOf binds fun _ => none) → News s.heap s.heap.objs.size h₁ cells →
      CellsAre (bindC (envOfC name scope s.heap.objs.size a cd).kindOf binds fun _ => none) (cellsFrom (s.heap.objs.size + 1) scope.names []) cells →
      wpC (model prog w) (A.deeper (envOfC name scope s.heap.objs.size a cd)) (execs body (envOfC name scope s.heap.objs.size a cd))
        (fun f s' => R (.ok (.ret (match f with | .ret v => v | _ => .none))) s')
        (fun e s' => wpAny (model prog w) (A.deeper (envOfC name scope s.heap.objs.size a cd)) (leaving (envOfC name scope s.heap.objs.size a cd) e)
          (fun _ s'' => R (.error e) s'') (fun e' s'' => R (.error e') s'') s')
        { s with heap := h₁, toks := tk })
    (hco : scope.isCoroutine = false := by rfl) (hgen : scope.isGenerator = false := by rfl) (hk : scope.kind = .function := by rfl) :
    codeC (model prog w) A (.call (.ref a) ⟨args, []⟩) R s := by
  refine codeC_call_function hroom ho hdata hco hgen rfl hcd ?_
  rw [hbind]
  refine wpAny_pure (wpAny_newFunctionEnv_cells hk hkind fun env' he s' x => ?_)
  subst he
  refine ⟨hlim.keeps x.toInCall.keep, codeC_func ?_⟩
  obtain ⟨h₁, tk, rfl, _⟩ := x.done
  have hk₁ := x.toInCall.keep
  obtain ⟨cells, NC, Y⟩ := Cl.news (h₀ := s.heap) (Nat.le_refl _) fun n c hm => ⟨x.cell n c (lookup_of_mem_nodup (cellsFrom_names scope.names 0 (s.heap.objs.size + 1) [] [] rfl ▸ hnd) hm), x.above n c hm⟩
  exact h h₁ tk cells ⟨x.toInCall.ns, hk₁, Nat.le_refl _⟩ NC Y
end Mine
end
section
theorem Mine.reset_W5 : True := by
  w_top off
  exact trivial
open PySem PySem.W PySem.Calls PyProof.Rows
set_option maxRecDepth 100000
set_option linter.unusedVariables false
namespace Mine
theorem wpC_isTrue_Call {M : Model} {A : Around} {E : Value → Shared → Prop} {s : Shared} {env : Env} {func : Expr} {args : List Expr} {kws : List Keyword} {pos : Pos} {whole : Sem Value} {Q : Bool → Shared → Prop}
    (h : wpC M A whole (fun v s₁ => wpAny M A (truthy v) Q E s₁) E s) : wpC M A (isTrue (.Call func args kws pos) env whole) Q E s := by
  show wpC M A (whole >>= fun v => standAt (Expr.Call func args kws pos).pos >>= fun _ => holding [v] (truthy v)) Q E s
  exact wpC_bind (wpC_mono h (fun v s₁ h₁ => wpC_standAt (wpC_holding (wpC_any h₁))) fun _ _ x => x)
end Mine
end
section
theorem Mine.reset_S5 : True := by
  w_top off
  exact trivial
open PySem PySem.W PySem.NumText PyProof.Rows
set_option maxRecDepth 100000
set_option linter.unusedVariables false
namespace Mine
/-! slices that are open on one side; a text with a foreign sign in it -/
theorem indices_head {j n : Nat} : Builtin.Str.strSliceIndices none (some (j : Int)) 1 n = Builtin.Str.strSliceIndices (some 0) (some (j : Int)) 1 n := by
  unfold Builtin.Str.strSliceIndices
  simp
  rw [show max (0 : Int) (min 0 (n : Int)) = 0 from by (first | lia | omega)]
theorem indices_tail {i n : Nat} : Builtin.Str.strSliceIndices (some (i : Int)) none 1 n = Builtin.Str.strSliceIndices (some (i : Int)) (some (n : Int)) 1 n := by
  unfold Builtin.Str.strSliceIndices
  dsimp only
  rw [if_neg (show ¬ ((n : Int) < 0) by (first | lia | omega))]
  simp
theorem slice_head {x : Str} {j : Nat} (hj : j ≤ x.length) : sg (Txt.slice x none (some (j : Int))) = (sg x).take j := by
  have e : Txt.slice x none (some (j : Int)) = Txt.slice x (some ((0 : Nat) : Int)) (some (j : Int)) := by
    unfold Txt.slice; rw [indices_head]; rfl
  rw [e]
  exact (slice_in (Nat.zero_le _) hj).trans (by rw [List.drop_zero, Nat.sub_zero])
theorem slice_tail {x : Str} {i : Nat} (hi : i ≤ x.length) : sg (Txt.slice x (some (i : Int)) none) = (sg x).drop i := by
  have e : Txt.slice x (some (i : Int)) none = Txt.slice x (some (i : Int)) (some (x.length : Int)) := by
    unfold Txt.slice; rw [indices_tail]
  rw [e]
  refine (slice_in hi (Nat.le_refl _)).trans ?_
  show List.take (x.length - i) (List.drop i (sg x)) = _
  rw [List.take_of_length_le]
  rw [List.length_drop, sg_len]
  exact Nat.le_refl _
theorem foreign_all : ∀ r : Fin 5, sg (Txt.item (PySem.Str.ofString ".:/a,") ((r.1 : Nat) : Int)) ∈ [[46], [58], [47], [97], [44]] := by decide +kernel
theorem foreign_at {r : Nat} (h : r < 5) : ∃ c, sg (Txt.item (PySem.Str.ofString ".:/a,") (r : Int)) = [c] ∧ Foreign c := by
  have k := foreign_all ⟨r, h⟩
  simp only [List.mem_cons, List.not_mem_nil, or_false] at k
  rcases k with k | k | k | k | k
  · exact ⟨46, k, .inr (.inl rfl)⟩
  · exact ⟨58, k, .inr (.inr (.inr (.inl rfl)))⟩
  · exact ⟨47, k, .inr (.inr (.inl rfl))⟩
  · exact ⟨97, k, .inr (.inr (.inr (.inr rfl)))⟩
  · exact ⟨44, k, .inl rfl⟩
/-- figures with one foreign sign among them -/
theorem with_foreign {xs : List Nat} {p c : Nat} (hd : AllDigits xs) (hc : Foreign c) :
    Dull (xs.take p ++ [c] ++ xs.drop p) ∧ (∃ d ∈ xs.take p ++ [c] ++ xs.drop p, Foreign d) ∧ (xs.take p ++ [c] ++ xs.drop p).filter (· != 95) = xs.take p ++ [c] ++ xs.drop p ∧
      (∀ d ∈ xs.take p ++ [c] ++ xs.drop p, d < 128) ∧ (∀ d, (xs.take p ++ [c] ++ xs.drop p).getLast? = some d → spc d = false) ∧ (xs.take p ++ [c] ++ xs.drop p).length = xs.length + 1 := by
  have dull : Dull (xs.take p ++ [c] ++ xs.drop p) := by
    intro d hd'
    simp only [List.mem_append, List.mem_singleton] at hd'
    rcases hd' with (h | rfl) | h
    · exact .inl (hd d (List.mem_of_mem_take h))
    · exact .inr hc
    · exact .inl (hd d (List.mem_of_mem_drop h))
  refine ⟨dull, ⟨c, by simp, hc⟩, ?_, ?_, ?_, ?_⟩
  · exact List.filter_eq_self.mpr fun d h => bne_iff_ne.mpr (by have := dull d h; (first | lia | omega))
  · intro d h; have := dull d h; (first | lia | omega)
  · intro d h
    have := dull d (List.mem_of_getLast? h)
    unfold spc
    have h1 : ¬ d ≤ 13 := by (first | lia | omega)
    have h2 : ¬ d ≤ 32 := by (first | lia | omega)
    simp [h1, h2]
  · rw [List.length_append, List.length_append, List.length_take, List.length_drop, List.length_singleton]
    (first | lia | omega)
/-- underscores, then blanks -/
theorem only_bars (q : Nat) : (List.replicate q 95).filter (· != 95) = [] := by
  rw [List.filter_eq_nil_iff]
  intro d h
  rw [(List.mem_replicate.mp h).2]
  decide
end Mine
end
section
theorem Mine.reset_C0 : True := by
  w_top off
  exact trivial
open PySem PySem.W PyProof.Rows
set_option maxRecDepth 100000
namespace Mine
/-! arithmetic of the model's ints -/
theorem bitAnd_nat (a b : Nat) : Builtin.bitAnd (a : Int) (b : Int) = ((a &&& b : Nat) : Int) := by
  unfold Builtin.bitAnd
  have h1 : decide ((0 : Int) ≤ (a : Int)) = true := decide_eq_true (Int.natCast_nonneg _)
  have h2 : decide ((0 : Int) ≤ (b : Int)) = true := decide_eq_true (Int.natCast_nonneg _)
  rw [h1, h2]
  rfl
theorem fdiv_pow (a : Nat) (k : Nat) : ((a : Int)).fdiv (2 ^ k) = ((a / 2 ^ k : Nat) : Int) := by
  rw [← kbt_cast, Int.fdiv_eq_ediv_of_nonneg _ (Int.natCast_nonneg _)]
  rfl
theorem doubled_int {k n c : Nat} (h : n < 10 ^ k) (hc : c ≤ 1) :
    (((bcd n : Nat) : Int) + (Builtin.bitAnd (((bcd n : Nat) : Int) + ((rep 3 k : Nat) : Int)) ((rep 8 k : Nat) : Int)).fdiv (2 ^ Int.toNat 2) +
      (Builtin.bitAnd (((bcd n : Nat) : Int) + ((rep 3 k : Nat) : Int)) ((rep 8 k : Nat) : Int)).fdiv (2 ^ Int.toNat 3)) * 2 ^ Int.toNat 1 + ((c : Nat) : Int) = ((bcd (2 * n + c) : Nat) : Int) := by
  rw [← doubled_is h hc]
  rw [← Int.natCast_add, bitAnd_nat, fdiv_pow, fdiv_pow]
  show (((bcd n : Nat) : Int) + (((((bcd n + rep 3 k) &&& rep 8 k)) / 4 : Nat) : Int) + (((((bcd n + rep 3 k) &&& rep 8 k)) / 8 : Nat) : Int)) * 2 + ((c : Nat) : Int) = _
  (first | lia | omega)
theorem bits_bcd {k n : Nat} (h : n < 10 ^ k) : Builtin.Int.intBits ((bcd n : Nat) : Int) ≤ 4 * k := by
  refine intBits_le_iff.mpr ?_
  have := bcd_lt k n h
  rw [pow16] at this
  simpa using this
theorem bits_rep {d : Nat} (hd : d < 16) (k : Nat) : Builtin.Int.intBits ((rep d k : Nat) : Int) ≤ 4 * k := by
  refine intBits_le_iff.mpr ?_
  have := rep_lt hd k
  rw [pow16] at this
  simpa using this
theorem bits_and {x y : Int} {n : Nat} (hy : 0 ≤ y) (h : Builtin.Int.intBits y ≤ n) : Builtin.Int.intBits (Builtin.bitAnd x y) ≤ n := by
  have := bitAnd_range x hy
  exact intBits_le_of_natAbs (by (first | lia | omega)) h

theorem fill_it (w : World) (h : Heap) : Frag.In (Mine.Head.hd.heap_39 w.params) h → Challenge.rw_lo0013_01.row.prog = Challenge.rw_lo0013_01.row.prog := by
  k_fill
  intros; rfl

section
variable {w : World} {p : Program} {loose : List Str} {mean : ExcName → Option Value} {mg mb : Str → Option Value} {dp un : Nat} {gd : Option (List Code)} {cn : Str} {cs : Scope} {a : Addr} {ccd : Value} {cl : List (Str × Addr)} {outer : List Env} {A₀ : Around} {base h₀ : Heap} {L : Addr} {m : Str → Option Value} {news : List (Addr × Obj)} {s : Shared} {Q E : Value → Shared → Prop}

local macro_rules | `(tactic| walk_at "binaryOp LShift int int") => `(tactic| (k_here; refine lshift_int ?_ ?_ ?_))

set_option maxHeartbeats 8000000 in
theorem c_doubled {k n : Nat} {x b th e : Int} {t1 t2 t3 t4 : Tok} (hk4 : k ≤ 5000) (hth : th = ((rep 3 k : Nat) : Int)) (he : e = ((rep 8 k : Nat) : Int)) (hx : x = ((bcd n : Nat) : Int)) (hn : n < 10 ^ k) (hb0 : 0 ≤ b) (hb1 : b ≤ 1)
    (B : Below A₀ base outer h₀) (F : Fr h₀ L s.heap m) (X : Frag.In (Mine.Head.hd.heap_39 w.params) h₀) (N : News h₀ L s.heap news) (T : Top p loose mean mg mb h₀) (hk : cs.kind = .function) (hd : dp + 1 < recursionLimit) (hu : un + 8 < cLine)
    (hret : ∀ t h' tk', Fr h₀ L h' m → News h₀ L h' news → Q (.int ((bcd (2 * n + b.toNat) : Nat) : Int) t) { s with heap := h', toks := tk' }) :
    wpAny (model Challenge.rw_lo0013_01.row.prog w) (ktrTop dp un gd cn cs L a ccd cl outer) (call (.ref 50) [.int x t1, .int b t2, .int th t3, .int e t4]) Q E s := by
  obtain ⟨c, rfl⟩ := Int.eq_ofNat_of_zero_le hb0
  have hc : c ≤ 1 := by (first | lia | omega)
  subst hx hth he
  refine wpAny_call ?_
  k_dflt cell_enter
  k_steps
  · have b1 := bits_bcd hn
    have b2 := bits_rep (d := 8) (by decide) k
    have b3 := bits_and (x := ((bcd n : Nat) : Int) + ((rep 3 k : Nat) : Int)) (Int.natCast_nonneg _) b2
    have b4 := intBits_add_le (intBits_add_le b1 (intBits_fdiv_le (y := 2 ^ Int.toNat 2) b3)) (intBits_fdiv_le (y := 2 ^ Int.toNat 3) b3)
    (first | lia | omega)
  · rw [doubled_int hn hc]
    exact hret _ _ _ (by assumption) (by assumption)
end
end Mine
end
section
theorem Mine.reset_C1 : True := by
  w_top off
  exact trivial
open PySem PySem.W PyProof.Rows
set_option maxRecDepth 100000
set_option linter.unusedVariables false
namespace Mine
theorem fill_1 (w : World) (h : Heap) : Frag.In (Mine.Head.hd.heap_39 w.params) h → Challenge.rw_lo0013_01.row.prog = Challenge.rw_lo0013_01.row.prog := by
  k_fill
  intros; rfl
section
variable {w : World} {p : Program} {loose : List Str} {mean : ExcName → Option Value} {mg mb : Str → Option Value} {dp un : Nat} {gd : Option (List Code)} {cn : Str} {cs : Scope} {a : Addr} {ccd : Value} {cl : List (Str × Addr)} {outer : List Env} {A₀ : Around} {base h₀ : Heap} {L : Addr} {m : Str → Option Value} {news : List (Addr × Obj)} {s : Shared} {Q E : Value → Shared → Prop}

theorem half_bit (n j : Nat) : 2 * (n / 2 ^ (j + 1)) + (Builtin.bitAnd ((n : Int).fdiv (2 ^ j)) 1).toNat = n / 2 ^ j := by
  rw [fdiv_pow, bitAnd_m1, Nat.pow_succ, ← Nat.div_div_eq_div_mul]
  (first | lia | omega)
theorem bit_range (x : Int) : 0 ≤ Builtin.bitAnd x 1 ∧ Builtin.bitAnd x 1 ≤ 1 := by
  rw [bitAnd_m1]; (first | lia | omega)
theorem half_all {n : Nat} : n / 2 ^ (Builtin.Int.intBits (n : Int)) = 0 := by
  have : n < 2 ^ (Builtin.Int.intBits (n : Int)) := by
    have := (intBits_le_iff (m := Builtin.Int.intBits (n : Int)) (x := (n : Int))).mp (Nat.le_refl _)
    simpa using this
  exact Nat.div_eq_of_lt this


set_option maxHeartbeats 8000000 in
theorem c_packed {k n : Nat} {t1 t3 t4 : Tok} (hk4 : k ≤ 5000) (hn : n < 10 ^ k) (hn2 : Builtin.Int.intBits (n : Int) ≤ 600)
    (B : Below A₀ base outer h₀) (F : Fr h₀ L s.heap m) (X : Frag.In (Mine.Head.hd.heap_39 w.params) h₀) (N : News h₀ L s.heap news) (T : Top p loose mean mg mb h₀) (hk : cs.kind = .function) (hd : dp + 5 < recursionLimit) (hu : un + 30 < cLine)
    (hret : ∀ t h' tk', Fr h₀ L h' m → News h₀ L h' news → Q (.int ((bcd n : Nat) : Int) t) { s with heap := h', toks := tk' }) :
    wpAny (model Challenge.rw_lo0013_01.row.prog w) (ktrTop dp un gd cn cs L a ccd cl outer) (call (.ref 57) [.int ((n : Nat) : Int) t1, .int ((rep 3 k : Nat) : Int) t3, .int ((rep 8 k : Nat) : Int) t4]) Q E s := by
  refine wpAny_call ?_
  k_dflt cell_enter
  (repeat' (first | (k_unfold; (try dsimp only)) | ((fail_if_success (with_reducible (first | show InvEndN _ _ _ _ _ _ _ | show wpAny _ _ (pyIter _) _ _ _ | show wpAny _ _ (call (Value.ref _) _ _) _ _ _))); first | (k_end; wrow_close) | walk1 | (dsimp only; walk1) | (leave1; walk_say "STEP leave1"; try dsimp only) | fail "no step")))
  refine' kst_rangeD (σ := Int × Tok) (fun _ => news) (fun c => [(Str.ofString "packed", Value.int c.1 c.2)]) (fun _ => True) [] (fun pre c => c.1 = ((bcd (n / 2 ^ (Builtin.Int.intBits (n : Int) - pre.length)) : Nat) : Int)) (0, _)
    rfl (by assumption) (small_down (by (first | lia | omega)) (by (first | lia | omega)) (by (first | lia | omega)) (by (first | lia | omega))) (rangeSize_downNat _ _) (by assumption) (by assumption) trivial (List.forall_mem_cons.mpr ⟨rfl, List.forall_mem_nil _⟩) ?_ ?_ ?_
  · show (0 : Int) = ((bcd (n / 2 ^ (Builtin.Int.intBits (n : Int))) : Nat) : Int)
    rw [half_all, bcd_zero]; rfl
  · rintro ⟨v, tv⟩ pre kk t u h tk own hkk hlt off hf hP F1 N1
    dsimp only at hP F1 N1
    (repeat' (first | (k_unfold; (try dsimp only)) | ((fail_if_success (with_reducible (first | show InvEndN _ _ _ _ _ _ _ | show wpAny _ _ (pyIter _) _ _ _ | show wpAny _ _ (call (Value.ref _) _ _) _ _ _))); first | (k_end; wrow_close) | walk1 | (dsimp only; walk1) | (leave1; walk_say "STEP leave1"; try dsimp only) | fail "no step")))
    have hb := bit_range ((n : Int).fdiv (2 ^ kk.toNat))
    refine c_doubled hk4 rfl rfl hP (Nat.lt_of_le_of_lt (Nat.div_le_self _ _) hn) hb.1 hb.2 (by assumption) (by assumption) (by assumption) (by assumption) (by assumption) rfl (by ktr_room) (by ktr_units) ?_
    intro t9 h9 tk9 F9 N9
    (repeat' (first | (k_unfold; (try dsimp only)) | ((fail_if_success (with_reducible (first | show InvEndN _ _ _ _ _ _ _ | show wpAny _ _ (pyIter _) _ _ _ | show wpAny _ _ (call (Value.ref _) _ _) _ _ _))); first | (k_end; wrow_close) | walk1 | (dsimp only; walk1) | (leave1; walk_say "STEP leave1"; try dsimp only) | fail "no step")))
    refine kst_end (c := (_, _)) (by assumption) (by assumption) (fun _ hp => List.mem_append_left _ hp) (fun _ hp => List.mem_append_right _ hp) rfl trivial (List.forall_mem_cons.mpr ⟨rfl, List.forall_mem_nil _⟩) ?_ ?_
    · intro z h1 h2 _
      have h3 := h2 _ (.head _)
      simp [h1, h3, kstB]
    · dsimp only
      have e1 : kk.toNat = Builtin.Int.intBits (n : Int) - (pre ++ [kk]).length := by rw [List.length_append, List.length_singleton]; (first | lia | omega)
      have e2 : Builtin.Int.intBits (n : Int) - pre.length = kk.toNat + 1 := by (first | lia | omega)
      rw [← e1, e2, half_bit]
  · rintro ⟨v, tv⟩ u h tk hf hP F1 N1
    dsimp only at hP F1 N1
    (repeat' (first | (k_unfold; (try dsimp only)) | ((fail_if_success (with_reducible (first | show InvEndN _ _ _ _ _ _ _ | show wpAny _ _ (pyIter _) _ _ _ | show wpAny _ _ (call (Value.ref _) _ _) _ _ _))); first | (k_end; wrow_close) | walk1 | (dsimp only; walk1) | (leave1; walk_say "STEP leave1"; try dsimp only) | fail "no step")))
    rw [downKs_length] at hP
    have e : Builtin.Int.intBits (n : Int) - ((((Builtin.Int.intBits (n : Int) : Nat) : Int) - 1) - -1).toNat = 0 := by (first | lia | omega)
    rw [e, Nat.pow_zero, Nat.div_one] at hP
    subst hP
    exact hret _ _ _ (by assumption) (by assumption)
end
end Mine
end
section
theorem Mine.reset_C2 : True := by
  w_top off
  exact trivial
open PySem PySem.W PyProof.Rows
set_option maxRecDepth 100000
set_option linter.unusedVariables false
namespace Mine
theorem fill_2 (w : World) (h : Heap) : Frag.In (Mine.Head.hd.heap_39 w.params) h → Challenge.rw_lo0013_01.row.prog = Challenge.rw_lo0013_01.row.prog := by
  k_fill
  intros; rfl
section
variable {w : World} {p : Program} {loose : List Str} {mean : ExcName → Option Value} {mg mb : Str → Option Value} {dp un : Nat} {gd : Option (List Code)} {cn : Str} {cs : Scope} {a : Addr} {ccd : Value} {cl : List (Str × Addr)} {outer : List Env} {A₀ : Around} {base h₀ : Heap} {L : Addr} {m : Str → Option Value} {news : List (Addr × Obj)} {s : Shared} {Q E : Value → Shared → Prop}


theorem mask_step (d s : Nat) : ((rep d s : Nat) : Int) + ((rep d s : Nat) : Int) * 2 ^ ((4 * (s : Int)).toNat) = ((rep d (s + s) : Nat) : Int) := by
  have e : (4 * (s : Int)).toNat = 4 * s := by (first | lia | omega)
  rw [e, ← kbt_cast, ← pow16, ← Int.natCast_mul, ← Int.natCast_add, rep_add, Nat.mul_comm]
/-- what stands between the turns: the masks of 2 ^ i places -/
noncomputable def MaskAt (x y z : Int) : Prop := ∃ i : Nat, i ≤ 12 ∧ x = ((rep 3 (2 ^ i) : Nat) : Int) ∧ y = ((rep 8 (2 ^ i) : Nat) : Int) ∧ z = ((2 ^ i : Nat) : Int)
theorem maskAt_start : MaskAt 3 8 1 := ⟨0, by decide, rfl, rfl, rfl⟩
theorem maskAt_range {x y z : Int} (h : MaskAt x y z) : 1 ≤ z ∧ z ≤ 4096 ∧ Builtin.Int.intBits x ≤ 16384 ∧ Builtin.Int.intBits y ≤ 16384 := by
  obtain ⟨i, hi, rfl, rfl, rfl⟩ := h
  have h1 : 1 ≤ 2 ^ i := Nat.one_le_two_pow
  have h2 : 2 ^ i ≤ 2 ^ 12 := Nat.pow_le_pow_right (by decide) hi
  have b1 := bits_rep (d := 3) (by decide) (2 ^ i)
  have b2 := bits_rep (d := 8) (by decide) (2 ^ i)
  (first | lia | omega)
theorem maskAt_next {x y z : Int} (h : MaskAt x y z) (hz : z < 4096) : MaskAt (x + x * 2 ^ ((4 * z).toNat)) (y + y * 2 ^ ((4 * z).toNat)) (z + z) := by
  obtain ⟨i, hi, rfl, rfl, rfl⟩ := h
  have h2 : i < 12 := by
    rcases Nat.lt_or_ge i 12 with h | h
    · exact h
    · have e : i = 12 := by (first | lia | omega)
      subst e
      exact absurd hz (by decide)
  have e : 2 ^ i + 2 ^ i = 2 ^ (i + 1) := by rw [Nat.pow_succ]; (first | lia | omega)
  exact ⟨i + 1, h2, by rw [mask_step, e], by rw [mask_step, e], by rw [← e]; (first | lia | omega)⟩
theorem maskAt_end {x y z : Int} (h : MaskAt x y z) (hz : ¬ z < 4096) : ∃ k : Nat, k = 4096 ∧ x = ((rep 3 k : Nat) : Int) ∧ y = ((rep 8 k : Nat) : Int) := by
  obtain ⟨i, hi, rfl, rfl, rfl⟩ := h
  have h2 : 2 ^ i ≤ 2 ^ 12 := Nat.pow_le_pow_right (by decide) hi
  exact ⟨2 ^ i, by (first | lia | omega), rfl, rfl⟩

set_option maxHeartbeats 8000000 in
theorem c_masks {t1 : Tok}
    (B : Below A₀ base outer h₀) (F : Fr h₀ L s.heap m) (X : Frag.In (Mine.Head.hd.heap_39 w.params) h₀) (N : News h₀ L s.heap news) (T : Top p loose mean mg mb h₀) (hk : cs.kind = .function) (hd : dp + 1 < recursionLimit) (hu : un + 8 < cLine)
    (hret : ∀ k d u1 u2 h' tk', k = 4096 → Fr h₀ L h' m → News h₀ L h' ((d, { cls := .type "tuple", data := .seq #[.int ((rep 3 k : Nat) : Int) u1, .int ((rep 8 k : Nat) : Int) u2] }) :: news) → (∀ p ∈ news, p.1 < d) → Q (.ref d) { s with heap := h', toks := tk' }) :
    wpAny (model Challenge.rw_lo0013_01.row.prog w) (ktrTop dp un gd cn cs L a ccd cl outer) (call (.ref 43) [.int 4096 t1]) Q E s := by
  refine wpAny_call ?_
  k_dflt cell_enter
  (repeat' (first | (k_unfold; (try dsimp only)) | ((fail_if_success (with_reducible (first | show InvEndN _ _ _ _ _ _ _ | show KswEnd _ _ _ _ _ _ _ _ _ _ _ _ | show wpAny _ _ (pyIter _) _ _ _ | show wpAny _ _ (call (Value.ref _) _ _) _ _ _ | show wpAny _ _ (exec (Stmt.While _ _ _ _) _) _ _ _ | show wpAny _ _ (binaryOp Operator.LShift _ _) _ _ _ | show wpAny _ _ (binaryOp Operator.Mult _ _) _ _ _ | show wpAny _ _ (binaryOp Operator.Pow _ _) _ _ _))); first | (k_end; wrow_close) | walk1 | (dsimp only; walk1) | (leave1; walk_say "STEP leave1"; try dsimp only) | fail "no step")))
  rename News _ _ _ _ => Nw
  refine' ksw_while (σ := (Int × Int × Int) × (Tok × Tok × Tok)) (fun _ => news) (fun c => [(Str.ofString "threes", Value.int c.1.1 c.2.1), (Str.ofString "eights", Value.int c.1.2.1 c.2.2.1), (Str.ofString "size", Value.int c.1.2.2 c.2.2.2)]) (fun _ => True) [] (fun c => MaskAt c.1.1 c.1.2.1 c.1.2.2) (fun c => 4096 - c.1.2.2.toNat) ((3, 8, 1), (_, _, _))
    (by assumption) (fun p hp => Nw p (.tail _ hp)) trivial (List.forall_mem_cons.mpr ⟨rfl, List.forall_mem_cons.mpr ⟨rfl, List.forall_mem_cons.mpr ⟨rfl, List.forall_mem_nil _⟩⟩⟩) maskAt_start ?_
  clear Nw
  rintro ⟨⟨x, y, z⟩, t1, t2, t3⟩ u h tk _ hM F1 N1
  dsimp only at hM F1 N1
  have hR := maskAt_range hM
  (repeat' (first | (k_unfold; (try dsimp only)) | ((fail_if_success (with_reducible (first | show InvEndN _ _ _ _ _ _ _ | show KswEnd _ _ _ _ _ _ _ _ _ _ _ _ | show wpAny _ _ (pyIter _) _ _ _ | show wpAny _ _ (call (Value.ref _) _ _) _ _ _ | show wpAny _ _ (exec (Stmt.While _ _ _ _) _) _ _ _ | show wpAny _ _ (binaryOp Operator.LShift _ _) _ _ _ | show wpAny _ _ (binaryOp Operator.Mult _ _) _ _ _ | show wpAny _ _ (binaryOp Operator.Pow _ _) _ _ _))); first | (k_end; wrow_close) | walk1 | (dsimp only; walk1) | (leave1; walk_say "STEP leave1"; try dsimp only) | fail "no step")))
  · refine PyProof.Rows.mul_int ?_ (IntMulOk.of_left (by decide))
    refine PyProof.Rows.lshift_int (by (first | lia | omega)) (by (first | lia | omega)) ?_
    (repeat' (first | (k_unfold; (try dsimp only)) | ((fail_if_success (with_reducible (first | show InvEndN _ _ _ _ _ _ _ | show KswEnd _ _ _ _ _ _ _ _ _ _ _ _ | show wpAny _ _ (pyIter _) _ _ _ | show wpAny _ _ (call (Value.ref _) _ _) _ _ _ | show wpAny _ _ (exec (Stmt.While _ _ _ _) _) _ _ _ | show wpAny _ _ (binaryOp Operator.LShift _ _) _ _ _ | show wpAny _ _ (binaryOp Operator.Mult _ _) _ _ _ | show wpAny _ _ (binaryOp Operator.Pow _ _) _ _ _))); first | (k_end; wrow_close) | walk1 | (dsimp only; walk1) | (leave1; walk_say "STEP leave1"; try dsimp only) | fail "no step")))
    refine PyProof.Rows.mul_int ?_ (IntMulOk.of_left (by decide))
    refine PyProof.Rows.lshift_int (by (first | lia | omega)) (by (first | lia | omega)) ?_
    (repeat' (first | (k_unfold; (try dsimp only)) | ((fail_if_success (with_reducible (first | show InvEndN _ _ _ _ _ _ _ | show KswEnd _ _ _ _ _ _ _ _ _ _ _ _ | show wpAny _ _ (pyIter _) _ _ _ | show wpAny _ _ (call (Value.ref _) _ _) _ _ _ | show wpAny _ _ (exec (Stmt.While _ _ _ _) _) _ _ _ | show wpAny _ _ (binaryOp Operator.LShift _ _) _ _ _ | show wpAny _ _ (binaryOp Operator.Mult _ _) _ _ _ | show wpAny _ _ (binaryOp Operator.Pow _ _) _ _ _))); first | (k_end; wrow_close) | walk1 | (dsimp only; walk1) | (leave1; walk_say "STEP leave1"; try dsimp only) | fail "no step")))
    refine ksw_end (c' := ((_, _, _), _, _, _)) (by assumption) (by assumption) (fun _ hp => hp) trivial (List.forall_mem_cons.mpr ⟨rfl, List.forall_mem_cons.mpr ⟨rfl, List.forall_mem_cons.mpr ⟨rfl, List.forall_mem_nil _⟩⟩⟩) ?_ (maskAt_next hM (by assumption)) ?_
    · intro z h2 _
      have h3 := h2 _ (.head _)
      have h4 := h2 _ (.tail _ (.head _))
      have h5 := h2 _ (.tail _ (.tail _ (.head _)))
      simp [h3, h4, h5, kstB]
    · dsimp only; (first | lia | omega)
  · obtain ⟨k, hk, rfl, rfl⟩ := maskAt_end hM (by assumption)
    exact hret k _ _ _ _ _ hk (by assumption) (by assumption) (by assumption)
end
end Mine
end
section
theorem Mine.reset_C3 : True := by
  w_top off
  exact trivial
open PySem PySem.W PyProof.Rows
set_option maxRecDepth 100000
set_option linter.unusedVariables false
namespace Mine
theorem fill_3 (w : World) (h : Heap) : Frag.In (Mine.Head.hd.heap_39 w.params) h → Challenge.rw_lo0013_01.row.prog = Challenge.rw_lo0013_01.row.prog := by
  k_fill
  intros; rfl
section
variable {w : World} {p : Program} {loose : List Str} {mean : ExcName → Option Value} {mg mb : Str → Option Value} {dp un : Nat} {gd : Option (List Code)} {cn : Str} {cs : Scope} {a : Addr} {ccd : Value} {cl : List (Str × Addr)} {outer : List Env} {A₀ : Around} {base h₀ : Heap} {L : Addr} {m : Str → Option Value} {news : List (Addr × Obj)} {s : Shared} {Q E : Value → Shared → Prop}



/-- how many figures the text has -/
noncomputable def figN (n : Nat) : Nat := max 1 ((Builtin.Int.intBits ((bcd n : Nat) : Int) + 3) / 4)
theorem figN_is (n : Nat) : (if (((Builtin.Int.intBits ((bcd n : Nat) : Int) : Nat) : Int) + 3).fdiv 4 > 1 then (((Builtin.Int.intBits ((bcd n : Nat) : Int) : Nat) : Int) + 3).fdiv 4 else 1) = ((figN n : Nat) : Int) := by
  unfold figN
  rw [Int.fdiv_eq_ediv_of_nonneg _ (by decide)]
  split <;> (first | lia | omega)
theorem figN_le {n k : Nat} (hk : 1 ≤ k) (h : n < 10 ^ k) : figN n ≤ k := by
  have := bits_bcd h
  unfold figN
  (first | lia | omega)
theorem figN_lt (n : Nat) : n < 10 ^ figN n := by
  apply lt_of_bcd
  have h := (intBits_le_iff (m := Builtin.Int.intBits ((bcd n : Nat) : Int)) (x := ((bcd n : Nat) : Int))).mp (Nat.le_refl _)
  rw [pow16]
  refine Nat.lt_of_lt_of_le (by simpa using h) (Nat.pow_le_pow_right (by decide) ?_)
  unfold figN
  (first | lia | omega)
theorem figN_ge {n k : Nat} (h : 10 ^ k ≤ n) : k + 1 ≤ figN n := by
  apply Nat.lt_of_not_le
  intro h2
  have h3 := figN_lt n
  have h4 : 10 ^ figN n ≤ 10 ^ k := Nat.pow_le_pow_right (by decide) h2
  (first | lia | omega)
theorem downKs_at {a : Int} {n i : Nat} (h : i < n) : (downKs a n)[i]? = some (a - (i : Int)) := by simp [downKs, h]
/-- the sign of a figure -/
noncomputable def sgn (n : Nat) (k : Int) : Str := ⟨#[48 + n / 10 ^ k.toNat % 10]⟩
theorem digit_int (n : Nat) {k : Int} (hk : 0 ≤ k) : Builtin.bitAnd (((bcd n : Nat) : Int).fdiv (2 ^ (4 * k).toNat)) 15 = ((n / 10 ^ k.toNat % 10 : Nat) : Int) := by
  have e : (4 * k).toNat = 4 * k.toNat := by (first | lia | omega)
  rw [bitAnd_m4, fdiv_pow, e, ← pow16, ← bcd_digit]
  (first | lia | omega)
theorem item_ten : ∀ i, i < 10 → Txt.item (Str.ofString "0123456789") ((i : Nat) : Int) = (⟨#[48 + i]⟩ : Str) := by decide +kernel
theorem item_sgn (n : Nat) {k : Int} (hk : 0 ≤ k) : Txt.item (Str.ofString "0123456789") (Builtin.bitAnd (((bcd n : Nat) : Int).fdiv (2 ^ (4 * k).toNat)) 15) = sgn n k := by
  rw [digit_int n hk, item_ten _ (Nat.mod_lt _ (by decide))]
  rfl
theorem digit_range10 (n : Nat) {k : Int} (hk : 0 ≤ k) : 0 ≤ Builtin.bitAnd (((bcd n : Nat) : Int).fdiv (2 ^ (4 * k).toNat)) 15 ∧ Builtin.bitAnd (((bcd n : Nat) : Int).fdiv (2 ^ (4 * k).toNat)) 15 < 10 := by
  rw [digit_int n hk]
  have : n / 10 ^ k.toNat % 10 < 10 := Nat.mod_lt _ (by decide)
  (first | lia | omega)
theorem flat_sgn (n : Nat) : ∀ ks : List Int, (ks.map (sgn n)).flatMap sg = ks.map fun k => 48 + n / 10 ^ k.toNat % 10
  | [] => rfl
  | k :: ks => by
    rw [List.map_cons, List.flatMap_cons, flat_sgn n ks, List.map_cons]
    rfl
theorem figs_of_down (n : Nat) (F : Nat) : ((downKs ((F : Int) - 1) F).map (sgn n)).flatMap sg = figs F n := by
  rw [flat_sgn]
  unfold figs
  apply List.ext_getElem
  · simp [downKs]
  · intro i h1 h2
    have hi : i < F := by simpa [downKs] using h1
    simp only [downKs, List.getElem_map, List.getElem_range, List.getElem_reverse, List.length_range]
    have e2 : (((F : Int) - 1) - (i : Int)).toNat = F - 1 - i := by (first | lia | omega)
    rw [e2]
theorem sum_ones : ∀ (ks : List Int) (n : Nat), ((ks.map (sgn n)).map (·.length)).sum = ks.length
  | [], _ => rfl
  | k :: ks, n => by
    simp only [List.map_cons, List.sum_cons, List.length_cons, sum_ones ks n]
    show 1 + _ = _
    (first | lia | omega)
theorem ten_len : (Str.ofString "0123456789").length = 10 := by decide

set_option maxHeartbeats 8000000 in
theorem c_text {n : Nat} {t1 : Tok} (hn : n < 10 ^ 4000)
    (B : Below A₀ base outer h₀) (F : Fr h₀ L s.heap m) (X : Frag.In (Mine.Head.hd.heap_39 w.params) h₀) (N : News h₀ L s.heap news) (T : Top p loose mean mg mb h₀) (hk : cs.kind = .function) (hd : dp + 1 < recursionLimit) (hu : un + 8 < cLine)
    (hret : ∀ x : Str, ∀ u1 h' tk', x.cps.toList = figs (figN n) n → Fr h₀ L h' m → News h₀ L h' news → Q (.str x u1) { s with heap := h', toks := tk' }) :
    wpAny (model Challenge.rw_lo0013_01.row.prog w) (ktrTop dp un gd cn cs L a ccd cl outer) (call (.ref 62) [.int ((bcd n : Nat) : Int) t1]) Q E s := by
  have hb := bits_bcd hn
  have hf := figN_le (by decide) hn
  refine wpAny_call ?_
  k_dflt (first   | (refine' code_def ?k1 ?k2 ?k3 ?k4 ?k5 ?kA ?kF ?kK ?k6 ?k7 ?k8 ?k9 ?kB ?_ ?c2 ?c3 ?c4 ?c5; (case kA => exact rfl); (case kF => exact rfl); (case kK => first | exact rfl | assumption); (case k1 => k_asm); (case k2 => k_asm); (case k3 => k_asm); (case k4 => k_asm); (case k5 => k_asm); (case k6 => k_is); (case k7 => k_is); (case k8 => ktr_room); (case k9 => first | exact BindsTo.of_eq rfl | exact binds_K (by k_in) rfl (by k_is) rfl rfl rfl); (case c5 => decide); (case kB => exact locs rfl); (case c2 => exact rfl); (case c3 => exact rfl); (case c4 => exact rfl); k_whole; intro g' L' h' FG' F' N' B' X' T'; (try dsimp only); (try k_lift B'); (try k_fold))   | (refine' code_defC ?k1 ?k2 ?k3 ?k4 ?k5 ?kA ?kF ?kK ?k6 ?k7 ?k8 ?k9 ?kB ?kD ?_ ?c2 ?c3 ?c4; (case kA => exact rfl); (case kF => exact rfl); (case kK => first | exact rfl | assumption); (case k1 => k_asm); (case k2 => k_asm); (case k3 => k_asm); (case k4 => k_asm); (case k5 => k_asm); (case k6 => k_is); (case k7 => k_is); (case k8 => ktr_room); (case k9 => first | exact BindsTo.of_eq rfl | exact binds_K (by k_in) rfl (by k_is) rfl rfl rfl); (case kB => exact rfl); (case kD => decide +kernel); (case c2 => exact rfl); (case c3 => exact rfl); (case c4 => exact rfl); k_whole; intro g' L' h' tk' cells' FG' F' N' Y' B' X' T' l1; (try k_lt l1); k_cells Y'; (try simp only [List.cons_append, List.nil_append] at N'); (try dsimp only); (try k_lift B'); (try k_fold)))
  (repeat' (first | (k_unfold; (try dsimp only)) | ((fail_if_success (with_reducible (first | show InvEndN _ _ _ _ _ _ _ | show KswEnd _ _ _ _ _ _ _ _ _ _ _ _ | show SrcStep _ _ _ _ _ _ _ _ _ _ _ _ _ _ | show LCg.CompEnd _ _ _ _ _ _ _ _ _ _ _ _ _ _ | show wpAny _ _ (pyIter _) _ _ _ | show wpAny _ _ (subscriptTail _ _ (Value.str _ _) _) _ _ _ | show wpAny _ _ (call (Value.builtin "str.join") _ _) _ _ _ | show wpAny _ _ (call (Value.ref _) _ _) _ _ _ | show wpAny _ _ (exec (Stmt.While _ _ _ _) _) _ _ _ | show wpAny _ _ (binaryOp Operator.LShift _ _) _ _ _ | show wpAny _ _ (binaryOp Operator.Mult _ _) _ _ _ | show wpAny _ _ (binaryOp Operator.Pow _ _) _ _ _ | show wpAny _ _ (eval (Expr.ListComp _ _ _ _) _) _ _ _ | show wpAny _ _ (exec (Stmt.Assign _ (Expr.ListComp _ _ _ _) _) _) _ _ _))); first | (k_end; wrow_close) | walk1 | (dsimp only; walk1) | (leave1; walk_say "STEP leave1"; try dsimp only) | fail "no step")))
  refine ListComp_step (by assumption) (by with_unfolding_all rfl) (by decide) (by rfl) (by decide) (by rfl) ?_
  (repeat' (first | (k_unfold; (try dsimp only)) | ((fail_if_success (with_reducible (first | show InvEndN _ _ _ _ _ _ _ | show KswEnd _ _ _ _ _ _ _ _ _ _ _ _ | show SrcStep _ _ _ _ _ _ _ _ _ _ _ _ _ _ | show LCg.CompEnd _ _ _ _ _ _ _ _ _ _ _ _ _ _ | show wpAny _ _ (pyIter _) _ _ _ | show wpAny _ _ (subscriptTail _ _ (Value.str _ _) _) _ _ _ | show wpAny _ _ (call (Value.builtin "str.join") _ _) _ _ _ | show wpAny _ _ (call (Value.ref _) _ _) _ _ _ | show wpAny _ _ (exec (Stmt.While _ _ _ _) _) _ _ _ | show wpAny _ _ (binaryOp Operator.LShift _ _) _ _ _ | show wpAny _ _ (binaryOp Operator.Mult _ _) _ _ _ | show wpAny _ _ (binaryOp Operator.Pow _ _) _ _ _ | show wpAny _ _ (eval (Expr.ListComp _ _ _ _) _) _ _ _ | show wpAny _ _ (exec (Stmt.Assign _ (Expr.ListComp _ _ _ _) _) _) _ _ _))); first | (k_end; wrow_close) | walk1 | (dsimp only; walk1) | (leave1; walk_say "STEP leave1"; try dsimp only) | fail "no step")))
  rename IsRange _ _ _ _ _ _ _ _ => rg
  rw [figN_is] at rg
  refine SrcStep.intro (by rfl) (by assumption) (by assumption) rg (small_down (by (first | lia | omega)) (by (first | lia | omega)) (by (first | lia | omega)) (by (first | lia | omega))) (rangeSize_downNat _ _) (by rw [sizeLine_eq]; (first | lia | omega)) ?_
  intro g'
  refine kct_rest (sgn n) (downKs_length (((figN n : Nat) : Int) - 1) _) ?_ ?_ ?_
  · rintro i v hi ⟨t, rfl⟩
    exact ⟨_, t, downKs_at hi, by congr 1; (first | lia | omega)⟩
  · intro k' t' I' oI' C' oC' D' m' ys' h' tk' E' hk' hC' hx' F' N' off' ne' mk'
    have hr' := mem_downKs hk'
    dsimp only at F' N' ⊢
    (repeat' (first | (k_unfold; (try dsimp only)) | ((fail_if_success (with_reducible (first | show InvEndN _ _ _ _ _ _ _ | show KswEnd _ _ _ _ _ _ _ _ _ _ _ _ | show SrcStep _ _ _ _ _ _ _ _ _ _ _ _ _ _ | show LCg.CompEnd _ _ _ _ _ _ _ _ _ _ _ _ _ _ | show wpAny _ _ (pyIter _) _ _ _ | show wpAny _ _ (subscriptTail _ _ (Value.str _ _) _) _ _ _ | show wpAny _ _ (call (Value.builtin "str.join") _ _) _ _ _ | show wpAny _ _ (call (Value.ref _) _ _) _ _ _ | show wpAny _ _ (exec (Stmt.While _ _ _ _) _) _ _ _ | show wpAny _ _ (binaryOp Operator.LShift _ _) _ _ _ | show wpAny _ _ (binaryOp Operator.Mult _ _) _ _ _ | show wpAny _ _ (binaryOp Operator.Pow _ _) _ _ _ | show wpAny _ _ (eval (Expr.ListComp _ _ _ _) _) _ _ _ | show wpAny _ _ (exec (Stmt.Assign _ (Expr.ListComp _ _ _ _) _) _) _ _ _))); first | (k_end; wrow_close) | walk1 | (dsimp only; walk1) | (leave1; walk_say "STEP leave1"; try dsimp only) | fail "no step")))
    refine PyProof.Rows.mul_int ?_ (IntMulOk.of_left (by decide))
    (repeat' (first | (k_unfold; (try dsimp only)) | ((fail_if_success (with_reducible (first | show InvEndN _ _ _ _ _ _ _ | show KswEnd _ _ _ _ _ _ _ _ _ _ _ _ | show SrcStep _ _ _ _ _ _ _ _ _ _ _ _ _ _ | show LCg.CompEnd _ _ _ _ _ _ _ _ _ _ _ _ _ _ | show wpAny _ _ (pyIter _) _ _ _ | show wpAny _ _ (subscriptTail _ _ (Value.str _ _) _) _ _ _ | show wpAny _ _ (call (Value.builtin "str.join") _ _) _ _ _ | show wpAny _ _ (call (Value.ref _) _ _) _ _ _ | show wpAny _ _ (exec (Stmt.While _ _ _ _) _) _ _ _ | show wpAny _ _ (binaryOp Operator.LShift _ _) _ _ _ | show wpAny _ _ (binaryOp Operator.Mult _ _) _ _ _ | show wpAny _ _ (binaryOp Operator.Pow _ _) _ _ _ | show wpAny _ _ (eval (Expr.ListComp _ _ _ _) _) _ _ _ | show wpAny _ _ (exec (Stmt.Assign _ (Expr.ListComp _ _ _ _) _) _) _ _ _))); first | (k_end; wrow_close) | walk1 | (dsimp only; walk1) | (leave1; walk_say "STEP leave1"; try dsimp only) | fail "no step")))
    have hr2 := digit_range10 n (k := k') (by (first | lia | omega))
    refine KXi.item ten_len (by (first | lia | omega)) (by (first | lia | omega)) (by decide) ?_
    intro _
    rw [item_sgn n (by (first | lia | omega))]
    exact LCg.CompEnd.intro F' N' _ (fun _ hp => hp) off' trivial ⟨rfl, _, rfl⟩
  · intro ys hc hl D h tk F1 N1 off1
    dsimp only at F1 N1 ⊢
    (repeat' (first | (k_unfold; (try dsimp only)) | ((fail_if_success (with_reducible (first | show InvEndN _ _ _ _ _ _ _ | show KswEnd _ _ _ _ _ _ _ _ _ _ _ _ | show SrcStep _ _ _ _ _ _ _ _ _ _ _ _ _ _ | show LCg.CompEnd _ _ _ _ _ _ _ _ _ _ _ _ _ _ | show wpAny _ _ (pyIter _) _ _ _ | show wpAny _ _ (subscriptTail _ _ (Value.str _ _) _) _ _ _ | show wpAny _ _ (call (Value.builtin "str.join") _ _) _ _ _ | show wpAny _ _ (call (Value.ref _) _ _) _ _ _ | show wpAny _ _ (exec (Stmt.While _ _ _ _) _) _ _ _ | show wpAny _ _ (binaryOp Operator.LShift _ _) _ _ _ | show wpAny _ _ (binaryOp Operator.Mult _ _) _ _ _ | show wpAny _ _ (binaryOp Operator.Pow _ _) _ _ _ | show wpAny _ _ (eval (Expr.ListComp _ _ _ _) _) _ _ _ | show wpAny _ _ (exec (Stmt.Assign _ (Expr.ListComp _ _ _ _) _) _) _ _ _))); first | (k_end; wrow_close) | walk1 | (dsimp only; walk1) | (leave1; walk_say "STEP leave1"; try dsimp only) | fail "no step")))
    have hF : ((((figN n : Nat) : Int) - 1) - -1).toNat = figN n := by (first | lia | omega)
    rw [hF] at hc
    refine join_listC (N1.isList (.head _)) (CarriedAll.strsOf hc) (by decide) ?_ ?_
    · rw [sum_ones, List.length_map, downKs_length]; (first | lia | omega)
    · intro t' k'
      (repeat' (first | (k_unfold; (try dsimp only)) | ((fail_if_success (with_reducible (first | show InvEndN _ _ _ _ _ _ _ | show KswEnd _ _ _ _ _ _ _ _ _ _ _ _ | show SrcStep _ _ _ _ _ _ _ _ _ _ _ _ _ _ | show LCg.CompEnd _ _ _ _ _ _ _ _ _ _ _ _ _ _ | show wpAny _ _ (pyIter _) _ _ _ | show wpAny _ _ (subscriptTail _ _ (Value.str _ _) _) _ _ _ | show wpAny _ _ (call (Value.builtin "str.join") _ _) _ _ _ | show wpAny _ _ (call (Value.ref _) _ _) _ _ _ | show wpAny _ _ (exec (Stmt.While _ _ _ _) _) _ _ _ | show wpAny _ _ (binaryOp Operator.LShift _ _) _ _ _ | show wpAny _ _ (binaryOp Operator.Mult _ _) _ _ _ | show wpAny _ _ (binaryOp Operator.Pow _ _) _ _ _ | show wpAny _ _ (eval (Expr.ListComp _ _ _ _) _) _ _ _ | show wpAny _ _ (exec (Stmt.Assign _ (Expr.ListComp _ _ _ _) _) _) _ _ _))); first | (k_end; wrow_close) | walk1 | (dsimp only; walk1) | (leave1; walk_say "STEP leave1"; try dsimp only) | fail "no step")))
      rename News _ _ _ _ => Nn
      refine hret _ _ _ _ ?_ (by assumption) (fun p hp => Nn p (.tail _ (.tail _ hp)))
      exact (join_none _).trans (figs_of_down n _)
end
end Mine
end
section
theorem Mine.reset_C4 : True := by
  w_top off
  exact trivial
open PySem PySem.W PyProof.Rows
set_option maxRecDepth 100000
set_option linter.unusedVariables false
namespace Mine
theorem fill_4 (w : World) (h : Heap) : Frag.In (Mine.Head.hd.heap_39 w.params) h → Challenge.rw_lo0013_01.row.prog = Challenge.rw_lo0013_01.row.prog := by
  k_fill
  intros; rfl
section
variable {w : World} {p : Program} {loose : List Str} {mean : ExcName → Option Value} {mg mb : Str → Option Value} {dp un : Nat} {gd : Option (List Code)} {cn : Str} {cs : Scope} {a : Addr} {ccd : Value} {cl : List (Str × Addr)} {outer : List Env} {A₀ : Around} {base h₀ : Heap} {L : Addr} {m : Str → Option Value} {news : List (Addr × Obj)} {s : Shared} {Q E : Value → Shared → Prop}



theorem half_fdiv (x : Int) : x.fdiv (2 ^ Int.toNat 1) = x / 2 := Int.fdiv_eq_ediv_of_nonneg _ (by decide)
theorem fd_next {σ : Type} {h₀ : Heap} {L : Addr} {x : Str} {s : Shared} {Led : σ → List (Addr × Obj)} {ps : σ → List (Str × Value)} {stored : List Str} {m₀ : Str → Option Value} {P : Nat → σ → Prop} {own : List (Addr × Obj)} {Q : Flow → Shared → Prop} {i : Nat} {s₂ : Shared} (h : FdEnd h₀ L x s Led ps stored m₀ P own i s₂) : FdPost h₀ L x s Led ps stored m₀ P own Q i .next s₂ := h
theorem five_odd {k : Int} (h0 : 0 ≤ k) (h : 2 * (k / 2) + 1 = k) : (5 : Int) ^ (2 * (k / 2)).toNat * 5 = 5 ^ k.toNat := by
  rw [← Int.pow_succ]; congr 1; (first | lia | omega)
theorem mul_ok {a b : Int} (h : Builtin.Int.intBits a + Builtin.Int.intBits b ≤ 100000) : IntMulOk a b := by
  unfold IntMulOk
  have : Builtin.Int.intTooBig (Builtin.Int.intBits a + Builtin.Int.intBits b) = false := by
    unfold Builtin.Int.intTooBig
    have hb : (100000 : Int) < (bitsLine : Int) := by decide +kernel
    refine decide_eq_false ?_
    (first | lia | omega)
  rw [this]; simp
/-- three objects of the ledger's head -/
structure Three (x y z : Addr) (news : List (Addr × Obj)) : Prop where
  xy : y ≠ x
  xz : z ≠ x
  yz : z ≠ y
  off : ∀ p ∈ news, p.1 ≠ x ∧ p.1 ≠ y ∧ p.1 ≠ z
theorem Three.of {x y z : Addr} {news : List (Addr × Obj)} {oy oz oz' : Obj} (l1 : ∀ p ∈ news, p.1 < z) (l2 : ∀ p ∈ (z, oz) :: news, p.1 < y) (l3 : ∀ p ∈ (y, oy) :: (z, oz') :: news, p.1 < x) : Three x y z news :=
  ⟨Nat.ne_of_lt (l3 _ (.head _)), Nat.ne_of_lt (l3 _ (.tail _ (.head _))), Nat.ne_of_lt (l2 _ (.head _)), fun p hp => ⟨Nat.ne_of_lt (l3 p (.tail _ (.tail _ hp))), Nat.ne_of_lt (l2 p (.tail _ hp)), Nat.ne_of_lt (l1 p hp)⟩⟩
theorem Three.ux {x y z : Addr} {news : List (Addr × Obj)} {ox oy oz : Obj} (h : Three x y z news) : UpdF x ox ((x, ox) :: (y, oy) :: (z, oz) :: news) (fun o => (x, o) :: (y, oy) :: (z, oz) :: news) :=
  UpdF.head fun p hp => by
    rcases List.mem_cons.mp hp with rfl | hp
    · exact h.xy
    · rcases List.mem_cons.mp hp with rfl | hp
      · exact h.xz
      · exact (h.off p hp).1
theorem Three.uy {x y z : Addr} {news : List (Addr × Obj)} {ox oy oz : Obj} (h : Three x y z news) : UpdF y oy ((x, ox) :: (y, oy) :: (z, oz) :: news) (fun o => (x, ox) :: (y, o) :: (z, oz) :: news) :=
  UpdF.tail (Ne.symm h.xy) (UpdF.head fun p hp => by
    rcases List.mem_cons.mp hp with rfl | hp
    · exact h.yz
    · exact (h.off p hp).2.1)
theorem Three.uz {x y z : Addr} {news : List (Addr × Obj)} {ox oy oz : Obj} (h : Three x y z news) : UpdF z oz ((x, ox) :: (y, oy) :: (z, oz) :: news) (fun o => (x, ox) :: (y, oy) :: (z, o) :: news) :=
  UpdF.tail (Ne.symm h.xz) (UpdF.tail (Ne.symm h.yz) (UpdF.head fun p hp => (h.off p hp).2.2))

set_option maxHeartbeats 8000000 in
theorem c_powers {wv mt : Int} {t1 t2 t3 : Tok} (hS : Small wv mt) (hgap : mt < wv / 2 ∨ wv / 2 + 1 ≤ mt) (hwb : wv ≤ 10000)
    (B : Below A₀ base outer h₀) (F : Fr h₀ L s.heap m) (X : Frag.In (Mine.Head.hd.heap_39 w.params) h₀) (N : News h₀ L s.heap news) (T : Top p loose mean mg mb h₀) (hk : cs.kind = .function) (hd : dp + 3 < recursionLimit) (hu : un + 20 < cLine)
    (hret : ∀ D od kvs ns h' tk' dr', Fr h₀ L h' m → News h₀ L h' ((D, od) :: news) → (∀ p ∈ news, p.1 < D) → (D == sysModules) = false → od.IsDictOf (intKind Challenge.rw_lo0013_01.row.prog w) kvs → PowL kvs ns →
      ((wv ≤ mt ∧ ns = []) ∨ (mt < wv ∧ ((wv / 2 + 1 ≤ mt ∧ ns = [wv / 2]) ∨ (mt < wv / 2 ∧ (ns = [wv / 2 / 2, wv / 2] ∨ ns = [wv / 2 / 2, wv / 2 / 2 + 1, wv / 2]))))) → Q (.ref D) { s with heap := h', toks := tk', drawn := dr' }) :
    wpAny (model Challenge.rw_lo0013_01.row.prog w) (ktrTop dp un gd cn cs L a ccd cl outer) (call (.ref 22) [.int wv t1, .int 5 t2, .int mt t3]) Q E s := by
  refine wpAny_call ?_
  k_dflt (first   | (refine' code_def ?k1 ?k2 ?k3 ?k4 ?k5 ?kA ?kF ?kK ?k6 ?k7 ?k8 ?k9 ?kB ?_ ?c2 ?c3 ?c4 ?c5; (case kA => exact rfl); (case kF => exact rfl); (case kK => first | exact rfl | assumption); (case k1 => k_asm); (case k2 => k_asm); (case k3 => k_asm); (case k4 => k_asm); (case k5 => k_asm); (case k6 => k_is); (case k7 => k_is); (case k8 => ktr_room); (case k9 => first | exact BindsTo.of_eq rfl | exact binds_K (by k_in) rfl (by k_is) rfl rfl rfl); (case c5 => decide); (case kB => exact locs rfl); (case c2 => exact rfl); (case c3 => exact rfl); (case c4 => exact rfl); k_whole; intro g' L' h' FG' F' N' B' X' T'; (try dsimp only); (try k_lift B'); (try k_fold))   | (refine' code_defC ?k1 ?k2 ?k3 ?k4 ?k5 ?kA ?kF ?kK ?k6 ?k7 ?k8 ?k9 ?kB ?kD ?_ ?c2 ?c3 ?c4; (case kA => exact rfl); (case kF => exact rfl); (case kK => first | exact rfl | assumption); (case k1 => k_asm); (case k2 => k_asm); (case k3 => k_asm); (case k4 => k_asm); (case k5 => k_asm); (case k6 => k_is); (case k7 => k_is); (case k8 => ktr_room); (case k9 => first | exact BindsTo.of_eq rfl | exact binds_K (by k_in) rfl (by k_is) rfl rfl rfl); (case kB => exact rfl); (case kD => decide +kernel); (case c2 => exact rfl); (case c3 => exact rfl); (case c4 => exact rfl); k_whole; intro g' L' h' tk' cells' FG' F' N' Y' B' X' T' l1; (try k_lt l1); k_cells Y'; (try simp only [List.cons_append, List.nil_append] at N'); (try dsimp only); (try k_lift B'); (try k_fold)))
  (repeat' (first | (k_unfold; (try dsimp only)) | ((fail_if_success (with_reducible (first | show InvEndN _ _ _ _ _ _ _ | show KswEnd _ _ _ _ _ _ _ _ _ _ _ _ | show WdEnd _ _ _ _ _ _ _ _ _ _ _ | show SrcStep _ _ _ _ _ _ _ _ _ _ _ _ _ _ | show LCg.CompEnd _ _ _ _ _ _ _ _ _ _ _ _ _ _ | show wpAny _ _ (pyIter _) _ _ _ | show wpAny _ _ (subscriptTail _ _ (Value.str _ _) _) _ _ _ | show wpAny _ _ (call (Value.builtin "str.join") _ _) _ _ _ | show wpAny _ _ (call (Value.ref _) _ _) _ _ _ | show wpAny _ _ (exec (Stmt.While _ _ _ _) _) _ _ _ | show wpAny _ _ (binaryOp Operator.LShift _ _) _ _ _ | show wpAny _ _ (binaryOp Operator.Mult _ _) _ _ _ | show wpAny _ _ (binaryOp Operator.Pow _ _) _ _ _ | show wpAny _ _ (eval (Expr.ListComp _ _ _ _) _) _ _ _ | show wpAny _ _ (exec (Stmt.Assign _ (Expr.ListComp _ _ _ _) _) _) _ _ _ | show wpAny _ _ (call (Value.type "set") _ _) _ _ _ | show wpAny _ _ (eval (Expr.Set _ _ _) _) _ _ _ | show wpAny _ _ (getMethod (Value.ref _) _ _) _ _ _ | show wpAny _ _ (call (Value.builtin "set.add") _ _) _ _ _ | show wpAny _ _ (call (Value.builtin "set.pop") _ _) _ _ _ | show wpAny _ _ (compareOp CmpOp.In _ (Value.ref _)) _ _ _ | show wpAny _ _ (truthy (Value.ref _)) _ _ _ | show wpAny _ _ (call (Value.builtin "sorted") _ _) _ _ _ | show OneIn _ _ _ _ _ _ _ _ | show wpAny _ _ (exec (Stmt.For _ _ _ _ _) _) _ _ _ | show LoopD _ _ _ _ _ _ _ _ _ _ _ | show FdEnd _ _ _ _ _ _ _ _ _ _ _ _ | show FdPost _ _ _ _ _ _ _ _ _ _ _ _ _ _ | show wpAny _ _ (call (Value.builtin "iter") _ _) _ _ _ | show wpAny _ _ (call (Value.builtin "next") _ _) _ _ _ | show wpAny _ _ (setItem (Value.ref _) _ _) _ _ _ | show wpAny _ _ (subscriptTail _ _ (Value.ref _) _) _ _ _ | show wpAny _ _ (inplaceOp Operator.Mult _ _) _ _ _ | show wpAny _ _ (eval (Expr.Dict _ _ _) _) _ _ _))); first | (k_end; wrow_close) | walk1 | (dsimp only; walk1) | (leave1; walk_say "STEP leave1"; try dsimp only) | fail "no step")))
  refine set_new (by assumption) (by assumption) ?_
  intro dSeen h1 F1 N1 l1
  (repeat' (first | (k_unfold; (try dsimp only)) | ((fail_if_success (with_reducible (first | show InvEndN _ _ _ _ _ _ _ | show KswEnd _ _ _ _ _ _ _ _ _ _ _ _ | show WdEnd _ _ _ _ _ _ _ _ _ _ _ | show SrcStep _ _ _ _ _ _ _ _ _ _ _ _ _ _ | show LCg.CompEnd _ _ _ _ _ _ _ _ _ _ _ _ _ _ | show wpAny _ _ (pyIter _) _ _ _ | show wpAny _ _ (subscriptTail _ _ (Value.str _ _) _) _ _ _ | show wpAny _ _ (call (Value.builtin "str.join") _ _) _ _ _ | show wpAny _ _ (call (Value.ref _) _ _) _ _ _ | show wpAny _ _ (exec (Stmt.While _ _ _ _) _) _ _ _ | show wpAny _ _ (binaryOp Operator.LShift _ _) _ _ _ | show wpAny _ _ (binaryOp Operator.Mult _ _) _ _ _ | show wpAny _ _ (binaryOp Operator.Pow _ _) _ _ _ | show wpAny _ _ (eval (Expr.ListComp _ _ _ _) _) _ _ _ | show wpAny _ _ (exec (Stmt.Assign _ (Expr.ListComp _ _ _ _) _) _) _ _ _ | show wpAny _ _ (call (Value.type "set") _ _) _ _ _ | show wpAny _ _ (eval (Expr.Set _ _ _) _) _ _ _ | show wpAny _ _ (getMethod (Value.ref _) _ _) _ _ _ | show wpAny _ _ (call (Value.builtin "set.add") _ _) _ _ _ | show wpAny _ _ (call (Value.builtin "set.pop") _ _) _ _ _ | show wpAny _ _ (compareOp CmpOp.In _ (Value.ref _)) _ _ _ | show wpAny _ _ (truthy (Value.ref _)) _ _ _ | show wpAny _ _ (call (Value.builtin "sorted") _ _) _ _ _ | show OneIn _ _ _ _ _ _ _ _ | show wpAny _ _ (exec (Stmt.For _ _ _ _ _) _) _ _ _ | show LoopD _ _ _ _ _ _ _ _ _ _ _ | show FdEnd _ _ _ _ _ _ _ _ _ _ _ _ | show FdPost _ _ _ _ _ _ _ _ _ _ _ _ _ _ | show wpAny _ _ (call (Value.builtin "iter") _ _) _ _ _ | show wpAny _ _ (call (Value.builtin "next") _ _) _ _ _ | show wpAny _ _ (setItem (Value.ref _) _ _) _ _ _ | show wpAny _ _ (subscriptTail _ _ (Value.ref _) _) _ _ _ | show wpAny _ _ (inplaceOp Operator.Mult _ _) _ _ _ | show wpAny _ _ (eval (Expr.Dict _ _ _) _) _ _ _))); first | (k_end; wrow_close) | walk1 | (dsimp only; walk1) | (leave1; walk_say "STEP leave1"; try dsimp only) | fail "no step")))
  refine set_new (by assumption) (by assumption) ?_
  intro dNeed h2 F2 N2 l2
  (repeat' (first | (k_unfold; (try dsimp only)) | ((fail_if_success (with_reducible (first | show InvEndN _ _ _ _ _ _ _ | show KswEnd _ _ _ _ _ _ _ _ _ _ _ _ | show WdEnd _ _ _ _ _ _ _ _ _ _ _ | show SrcStep _ _ _ _ _ _ _ _ _ _ _ _ _ _ | show LCg.CompEnd _ _ _ _ _ _ _ _ _ _ _ _ _ _ | show wpAny _ _ (pyIter _) _ _ _ | show wpAny _ _ (subscriptTail _ _ (Value.str _ _) _) _ _ _ | show wpAny _ _ (call (Value.builtin "str.join") _ _) _ _ _ | show wpAny _ _ (call (Value.ref _) _ _) _ _ _ | show wpAny _ _ (exec (Stmt.While _ _ _ _) _) _ _ _ | show wpAny _ _ (binaryOp Operator.LShift _ _) _ _ _ | show wpAny _ _ (binaryOp Operator.Mult _ _) _ _ _ | show wpAny _ _ (binaryOp Operator.Pow _ _) _ _ _ | show wpAny _ _ (eval (Expr.ListComp _ _ _ _) _) _ _ _ | show wpAny _ _ (exec (Stmt.Assign _ (Expr.ListComp _ _ _ _) _) _) _ _ _ | show wpAny _ _ (call (Value.type "set") _ _) _ _ _ | show wpAny _ _ (eval (Expr.Set _ _ _) _) _ _ _ | show wpAny _ _ (getMethod (Value.ref _) _ _) _ _ _ | show wpAny _ _ (call (Value.builtin "set.add") _ _) _ _ _ | show wpAny _ _ (call (Value.builtin "set.pop") _ _) _ _ _ | show wpAny _ _ (compareOp CmpOp.In _ (Value.ref _)) _ _ _ | show wpAny _ _ (truthy (Value.ref _)) _ _ _ | show wpAny _ _ (call (Value.builtin "sorted") _ _) _ _ _ | show OneIn _ _ _ _ _ _ _ _ | show wpAny _ _ (exec (Stmt.For _ _ _ _ _) _) _ _ _ | show LoopD _ _ _ _ _ _ _ _ _ _ _ | show FdEnd _ _ _ _ _ _ _ _ _ _ _ _ | show FdPost _ _ _ _ _ _ _ _ _ _ _ _ _ _ | show wpAny _ _ (call (Value.builtin "iter") _ _) _ _ _ | show wpAny _ _ (call (Value.builtin "next") _ _) _ _ _ | show wpAny _ _ (setItem (Value.ref _) _ _) _ _ _ | show wpAny _ _ (subscriptTail _ _ (Value.ref _) _) _ _ _ | show wpAny _ _ (inplaceOp Operator.Mult _ _) _ _ _ | show wpAny _ _ (eval (Expr.Dict _ _ _) _) _ _ _))); first | (k_end; wrow_close) | walk1 | (dsimp only; walk1) | (leave1; walk_say "STEP leave1"; try dsimp only) | fail "no step")))
  refine set_one (R := fun _ => True) (by assumption) (by assumption) (by assumption) (by kernel_rfl) (by decide) (by decide) trivial (fun _ _ _ _ _ => trivial) ?_
  intro dWs h3 F3 N3 l3
  (repeat' (first | (k_unfold; (try dsimp only)) | ((fail_if_success (with_reducible (first | show InvEndN _ _ _ _ _ _ _ | show KswEnd _ _ _ _ _ _ _ _ _ _ _ _ | show WdEnd _ _ _ _ _ _ _ _ _ _ _ | show SrcStep _ _ _ _ _ _ _ _ _ _ _ _ _ _ | show LCg.CompEnd _ _ _ _ _ _ _ _ _ _ _ _ _ _ | show wpAny _ _ (pyIter _) _ _ _ | show wpAny _ _ (subscriptTail _ _ (Value.str _ _) _) _ _ _ | show wpAny _ _ (call (Value.builtin "str.join") _ _) _ _ _ | show wpAny _ _ (call (Value.ref _) _ _) _ _ _ | show wpAny _ _ (exec (Stmt.While _ _ _ _) _) _ _ _ | show wpAny _ _ (binaryOp Operator.LShift _ _) _ _ _ | show wpAny _ _ (binaryOp Operator.Mult _ _) _ _ _ | show wpAny _ _ (binaryOp Operator.Pow _ _) _ _ _ | show wpAny _ _ (eval (Expr.ListComp _ _ _ _) _) _ _ _ | show wpAny _ _ (exec (Stmt.Assign _ (Expr.ListComp _ _ _ _) _) _) _ _ _ | show wpAny _ _ (call (Value.type "set") _ _) _ _ _ | show wpAny _ _ (eval (Expr.Set _ _ _) _) _ _ _ | show wpAny _ _ (getMethod (Value.ref _) _ _) _ _ _ | show wpAny _ _ (call (Value.builtin "set.add") _ _) _ _ _ | show wpAny _ _ (call (Value.builtin "set.pop") _ _) _ _ _ | show wpAny _ _ (compareOp CmpOp.In _ (Value.ref _)) _ _ _ | show wpAny _ _ (truthy (Value.ref _)) _ _ _ | show wpAny _ _ (call (Value.builtin "sorted") _ _) _ _ _ | show OneIn _ _ _ _ _ _ _ _ | show wpAny _ _ (exec (Stmt.For _ _ _ _ _) _) _ _ _ | show LoopD _ _ _ _ _ _ _ _ _ _ _ | show FdEnd _ _ _ _ _ _ _ _ _ _ _ _ | show FdPost _ _ _ _ _ _ _ _ _ _ _ _ _ _ | show wpAny _ _ (call (Value.builtin "iter") _ _) _ _ _ | show wpAny _ _ (call (Value.builtin "next") _ _) _ _ _ | show wpAny _ _ (setItem (Value.ref _) _ _) _ _ _ | show wpAny _ _ (subscriptTail _ _ (Value.ref _) _) _ _ _ | show wpAny _ _ (inplaceOp Operator.Mult _ _) _ _ _ | show wpAny _ _ (eval (Expr.Dict _ _ _) _) _ _ _))); first | (k_end; wrow_close) | walk1 | (dsimp only; walk1) | (leave1; walk_say "STEP leave1"; try dsimp only) | fail "no step")))
  refine OneIn.intro (by assumption) (by assumption) (fun p hp => Nat.ne_of_lt (l3 p hp)) ?_
  intro h4 oWs F4 N4 hWs
  dsimp only at F4 N4 ⊢
  (repeat' (first | (k_unfold; (try dsimp only)) | ((fail_if_success (with_reducible (first | show InvEndN _ _ _ _ _ _ _ | show KswEnd _ _ _ _ _ _ _ _ _ _ _ _ | show WdEnd _ _ _ _ _ _ _ _ _ _ _ | show SrcStep _ _ _ _ _ _ _ _ _ _ _ _ _ _ | show LCg.CompEnd _ _ _ _ _ _ _ _ _ _ _ _ _ _ | show wpAny _ _ (pyIter _) _ _ _ | show wpAny _ _ (subscriptTail _ _ (Value.str _ _) _) _ _ _ | show wpAny _ _ (call (Value.builtin "str.join") _ _) _ _ _ | show wpAny _ _ (call (Value.ref _) _ _) _ _ _ | show wpAny _ _ (exec (Stmt.While _ _ _ _) _) _ _ _ | show wpAny _ _ (binaryOp Operator.LShift _ _) _ _ _ | show wpAny _ _ (binaryOp Operator.Mult _ _) _ _ _ | show wpAny _ _ (binaryOp Operator.Pow _ _) _ _ _ | show wpAny _ _ (eval (Expr.ListComp _ _ _ _) _) _ _ _ | show wpAny _ _ (exec (Stmt.Assign _ (Expr.ListComp _ _ _ _) _) _) _ _ _ | show wpAny _ _ (call (Value.type "set") _ _) _ _ _ | show wpAny _ _ (eval (Expr.Set _ _ _) _) _ _ _ | show wpAny _ _ (getMethod (Value.ref _) _ _) _ _ _ | show wpAny _ _ (call (Value.builtin "set.add") _ _) _ _ _ | show wpAny _ _ (call (Value.builtin "set.pop") _ _) _ _ _ | show wpAny _ _ (compareOp CmpOp.In _ (Value.ref _)) _ _ _ | show wpAny _ _ (truthy (Value.ref _)) _ _ _ | show wpAny _ _ (call (Value.builtin "sorted") _ _) _ _ _ | show OneIn _ _ _ _ _ _ _ _ | show wpAny _ _ (exec (Stmt.For _ _ _ _ _) _) _ _ _ | show LoopD _ _ _ _ _ _ _ _ _ _ _ | show FdEnd _ _ _ _ _ _ _ _ _ _ _ _ | show FdPost _ _ _ _ _ _ _ _ _ _ _ _ _ _ | show wpAny _ _ (call (Value.builtin "iter") _ _) _ _ _ | show wpAny _ _ (call (Value.builtin "next") _ _) _ _ _ | show wpAny _ _ (setItem (Value.ref _) _ _) _ _ _ | show wpAny _ _ (subscriptTail _ _ (Value.ref _) _) _ _ _ | show wpAny _ _ (inplaceOp Operator.Mult _ _) _ _ _ | show wpAny _ _ (eval (Expr.Dict _ _ _) _) _ _ _))); first | (k_end; wrow_close) | walk1 | (dsimp only; walk1) | (leave1; walk_say "STEP leave1"; try dsimp only) | fail "no step")))
  refine' wd_while (σ := (Obj × List (Int × Tok)) × (Obj × List (Int × Tok)) × (Obj × List (Int × Tok))) (fun c => (dWs, c.1.1) :: (dNeed, c.2.1.1) :: (dSeen, c.2.2.1) :: news) (fun _ => []) [Str.ofString "w", Str.ofString "lo"]
    (fun c => SetG (fun _ => True) w c.1.1 c.1.2 ∧ SetG RN w c.2.1.1 c.2.1.2 ∧ SetG (fun _ => True) w c.2.2.1 c.2.2.2 ∧ PInv wv mt (c.1.2.map (·.1)) (c.2.2.2.map (·.1)) (c.2.1.2.map (·.1)))
    (fun c => (3 - c.2.2.2.length) * 3 + c.1.2.length) ((oWs, [(wv, t1)]), (emptySet w, []), (emptySet w, []))
    (by assumption) (by assumption) (List.forall_mem_nil _) ⟨hWs, SetG.empty (RN_fresh _), SetG.empty trivial, pinv_start wv mt⟩ ?_
  have D3 := Three.of l1 l2 l3
  rintro ⟨⟨oW, lw⟩, ⟨oN, ln⟩, ⟨oS, ls⟩⟩ u h tk dr ⟨hW, hN, hSn, hP⟩ F5 N5
  dsimp only at hW hN hSn hP F5 N5 ⊢
  have b1 := pinv_ws7 hP hW.nd
  have b2 := pinv_need3 hP hN.nd
  have b3 := pinv_seen3 hP hSn.nd
  rw [List.length_map] at b1 b2 b3
  (repeat' (first | (k_unfold; (try dsimp only)) | ((fail_if_success (with_reducible (first | show InvEndN _ _ _ _ _ _ _ | show KswEnd _ _ _ _ _ _ _ _ _ _ _ _ | show WdEnd _ _ _ _ _ _ _ _ _ _ _ | show SrcStep _ _ _ _ _ _ _ _ _ _ _ _ _ _ | show LCg.CompEnd _ _ _ _ _ _ _ _ _ _ _ _ _ _ | show wpAny _ _ (pyIter _) _ _ _ | show wpAny _ _ (subscriptTail _ _ (Value.str _ _) _) _ _ _ | show wpAny _ _ (call (Value.builtin "str.join") _ _) _ _ _ | show wpAny _ _ (call (Value.ref _) _ _) _ _ _ | show wpAny _ _ (exec (Stmt.While _ _ _ _) _) _ _ _ | show wpAny _ _ (binaryOp Operator.LShift _ _) _ _ _ | show wpAny _ _ (binaryOp Operator.Mult _ _) _ _ _ | show wpAny _ _ (binaryOp Operator.Pow _ _) _ _ _ | show wpAny _ _ (eval (Expr.ListComp _ _ _ _) _) _ _ _ | show wpAny _ _ (exec (Stmt.Assign _ (Expr.ListComp _ _ _ _) _) _) _ _ _ | show wpAny _ _ (call (Value.type "set") _ _) _ _ _ | show wpAny _ _ (eval (Expr.Set _ _ _) _) _ _ _ | show wpAny _ _ (getMethod (Value.ref _) _ _) _ _ _ | show wpAny _ _ (call (Value.builtin "set.add") _ _) _ _ _ | show wpAny _ _ (call (Value.builtin "set.pop") _ _) _ _ _ | show wpAny _ _ (compareOp CmpOp.In _ (Value.ref _)) _ _ _ | show wpAny _ _ (truthy (Value.ref _)) _ _ _ | show wpAny _ _ (call (Value.builtin "sorted") _ _) _ _ _ | show OneIn _ _ _ _ _ _ _ _ | show wpAny _ _ (exec (Stmt.For _ _ _ _ _) _) _ _ _ | show LoopD _ _ _ _ _ _ _ _ _ _ _ | show FdEnd _ _ _ _ _ _ _ _ _ _ _ _ | show FdPost _ _ _ _ _ _ _ _ _ _ _ _ _ _ | show wpAny _ _ (call (Value.builtin "iter") _ _) _ _ _ | show wpAny _ _ (call (Value.builtin "next") _ _) _ _ _ | show wpAny _ _ (setItem (Value.ref _) _ _) _ _ _ | show wpAny _ _ (subscriptTail _ _ (Value.ref _) _) _ _ _ | show wpAny _ _ (inplaceOp Operator.Mult _ _) _ _ _ | show wpAny _ _ (eval (Expr.Dict _ _ _) _) _ _ _))); first | (k_end; wrow_close) | walk1 | (dsimp only; walk1) | (leave1; walk_say "STEP leave1"; try dsimp only) | fail "no step")))
  refine set_truthy (N5 _ (.head _)).1 hW (by (first | lia | omega)) ?_
  cases lw with
  | nil =>
    rw [if_neg (by decide)]
    have hE := pinv_end (by simpa using hP)
    clear hP b1 b3
    (repeat' (first | (k_unfold; (try dsimp only)) | ((fail_if_success (with_reducible (first | show InvEndN _ _ _ _ _ _ _ | show KswEnd _ _ _ _ _ _ _ _ _ _ _ _ | show WdEnd _ _ _ _ _ _ _ _ _ _ _ | show SrcStep _ _ _ _ _ _ _ _ _ _ _ _ _ _ | show LCg.CompEnd _ _ _ _ _ _ _ _ _ _ _ _ _ _ | show wpAny _ _ (pyIter _) _ _ _ | show wpAny _ _ (subscriptTail _ _ (Value.str _ _) _) _ _ _ | show wpAny _ _ (call (Value.builtin "str.join") _ _) _ _ _ | show wpAny _ _ (call (Value.ref _) _ _) _ _ _ | show wpAny _ _ (exec (Stmt.While _ _ _ _) _) _ _ _ | show wpAny _ _ (binaryOp Operator.LShift _ _) _ _ _ | show wpAny _ _ (binaryOp Operator.Mult _ _) _ _ _ | show wpAny _ _ (binaryOp Operator.Pow _ _) _ _ _ | show wpAny _ _ (eval (Expr.ListComp _ _ _ _) _) _ _ _ | show wpAny _ _ (exec (Stmt.Assign _ (Expr.ListComp _ _ _ _) _) _) _ _ _ | show wpAny _ _ (call (Value.type "set") _ _) _ _ _ | show wpAny _ _ (eval (Expr.Set _ _ _) _) _ _ _ | show wpAny _ _ (getMethod (Value.ref _) _ _) _ _ _ | show wpAny _ _ (call (Value.builtin "set.add") _ _) _ _ _ | show wpAny _ _ (call (Value.builtin "set.pop") _ _) _ _ _ | show wpAny _ _ (compareOp CmpOp.In _ (Value.ref _)) _ _ _ | show wpAny _ _ (truthy (Value.ref _)) _ _ _ | show wpAny _ _ (call (Value.builtin "sorted") _ _) _ _ _ | show OneIn _ _ _ _ _ _ _ _ | show wpAny _ _ (exec (Stmt.For _ _ _ _ _) _) _ _ _ | show LoopD _ _ _ _ _ _ _ _ _ _ _ | show FdEnd _ _ _ _ _ _ _ _ _ _ _ _ | show FdPost _ _ _ _ _ _ _ _ _ _ _ _ _ _ | show wpAny _ _ (call (Value.builtin "iter") _ _) _ _ _ | show wpAny _ _ (call (Value.builtin "next") _ _) _ _ _ | show wpAny _ _ (setItem (Value.ref _) _ _) _ _ _ | show wpAny _ _ (subscriptTail _ _ (Value.ref _) _) _ _ _ | show wpAny _ _ (inplaceOp Operator.Mult _ _) _ _ _ | show wpAny _ _ (eval (Expr.Dict _ _ _) _) _ _ _))); first | (k_end; wrow_close) | walk1 | (dsimp only; walk1) | (leave1; walk_say "STEP leave1"; try dsimp only) | fail "no step")))
    refine newDict_K (by k_asm) (by k_asm) (TopRead.nolimit (by k_asm)) ?_
    intro dA hA oA FA NA lA hmod _ _ hdA _
    dsimp only at FA NA ⊢
    (repeat' (first | (k_unfold; (try dsimp only)) | ((fail_if_success (with_reducible (first | show InvEndN _ _ _ _ _ _ _ | show KswEnd _ _ _ _ _ _ _ _ _ _ _ _ | show WdEnd _ _ _ _ _ _ _ _ _ _ _ | show SrcStep _ _ _ _ _ _ _ _ _ _ _ _ _ _ | show LCg.CompEnd _ _ _ _ _ _ _ _ _ _ _ _ _ _ | show wpAny _ _ (pyIter _) _ _ _ | show wpAny _ _ (subscriptTail _ _ (Value.str _ _) _) _ _ _ | show wpAny _ _ (call (Value.builtin "str.join") _ _) _ _ _ | show wpAny _ _ (call (Value.ref _) _ _) _ _ _ | show wpAny _ _ (exec (Stmt.While _ _ _ _) _) _ _ _ | show wpAny _ _ (binaryOp Operator.LShift _ _) _ _ _ | show wpAny _ _ (binaryOp Operator.Mult _ _) _ _ _ | show wpAny _ _ (binaryOp Operator.Pow _ _) _ _ _ | show wpAny _ _ (eval (Expr.ListComp _ _ _ _) _) _ _ _ | show wpAny _ _ (exec (Stmt.Assign _ (Expr.ListComp _ _ _ _) _) _) _ _ _ | show wpAny _ _ (call (Value.type "set") _ _) _ _ _ | show wpAny _ _ (eval (Expr.Set _ _ _) _) _ _ _ | show wpAny _ _ (getMethod (Value.ref _) _ _) _ _ _ | show wpAny _ _ (call (Value.builtin "set.add") _ _) _ _ _ | show wpAny _ _ (call (Value.builtin "set.pop") _ _) _ _ _ | show wpAny _ _ (compareOp CmpOp.In _ (Value.ref _)) _ _ _ | show wpAny _ _ (truthy (Value.ref _)) _ _ _ | show wpAny _ _ (call (Value.builtin "sorted") _ _) _ _ _ | show OneIn _ _ _ _ _ _ _ _ | show wpAny _ _ (exec (Stmt.For _ _ _ _ _) _) _ _ _ | show LoopD _ _ _ _ _ _ _ _ _ _ _ | show FdEnd _ _ _ _ _ _ _ _ _ _ _ _ | show FdPost _ _ _ _ _ _ _ _ _ _ _ _ _ _ | show wpAny _ _ (call (Value.builtin "iter") _ _) _ _ _ | show wpAny _ _ (call (Value.builtin "next") _ _) _ _ _ | show wpAny _ _ (setItem (Value.ref _) _ _) _ _ _ | show wpAny _ _ (subscriptTail _ _ (Value.ref _) _) _ _ _ | show wpAny _ _ (inplaceOp Operator.Mult _ _) _ _ _ | show wpAny _ _ (eval (Expr.Dict _ _ _) _) _ _ _))); first | (k_end; wrow_close) | walk1 | (dsimp only; walk1) | (leave1; walk_say "STEP leave1"; try dsimp only) | fail "no step")))
    rename News _ _ _ _ => N6
    refine set_truthy (N6 _ (.tail _ (.tail _ (.head _)))).1 hN (by (first | lia | omega)) ?_
    (repeat' (first | (k_unfold; (try dsimp only)) | ((fail_if_success (with_reducible (first | show InvEndN _ _ _ _ _ _ _ | show KswEnd _ _ _ _ _ _ _ _ _ _ _ _ | show WdEnd _ _ _ _ _ _ _ _ _ _ _ | show SrcStep _ _ _ _ _ _ _ _ _ _ _ _ _ _ | show LCg.CompEnd _ _ _ _ _ _ _ _ _ _ _ _ _ _ | show wpAny _ _ (pyIter _) _ _ _ | show wpAny _ _ (subscriptTail _ _ (Value.str _ _) _) _ _ _ | show wpAny _ _ (call (Value.builtin "str.join") _ _) _ _ _ | show wpAny _ _ (call (Value.ref _) _ _) _ _ _ | show wpAny _ _ (exec (Stmt.While _ _ _ _) _) _ _ _ | show wpAny _ _ (binaryOp Operator.LShift _ _) _ _ _ | show wpAny _ _ (binaryOp Operator.Mult _ _) _ _ _ | show wpAny _ _ (binaryOp Operator.Pow _ _) _ _ _ | show wpAny _ _ (eval (Expr.ListComp _ _ _ _) _) _ _ _ | show wpAny _ _ (exec (Stmt.Assign _ (Expr.ListComp _ _ _ _) _) _) _ _ _ | show wpAny _ _ (call (Value.type "set") _ _) _ _ _ | show wpAny _ _ (eval (Expr.Set _ _ _) _) _ _ _ | show wpAny _ _ (getMethod (Value.ref _) _ _) _ _ _ | show wpAny _ _ (call (Value.builtin "set.add") _ _) _ _ _ | show wpAny _ _ (call (Value.builtin "set.pop") _ _) _ _ _ | show wpAny _ _ (compareOp CmpOp.In _ (Value.ref _)) _ _ _ | show wpAny _ _ (truthy (Value.ref _)) _ _ _ | show wpAny _ _ (call (Value.builtin "sorted") _ _) _ _ _ | show OneIn _ _ _ _ _ _ _ _ | show wpAny _ _ (exec (Stmt.For _ _ _ _ _) _) _ _ _ | show LoopD _ _ _ _ _ _ _ _ _ _ _ | show FdEnd _ _ _ _ _ _ _ _ _ _ _ _ | show FdPost _ _ _ _ _ _ _ _ _ _ _ _ _ _ | show wpAny _ _ (call (Value.builtin "iter") _ _) _ _ _ | show wpAny _ _ (call (Value.builtin "next") _ _) _ _ _ | show wpAny _ _ (setItem (Value.ref _) _ _) _ _ _ | show wpAny _ _ (subscriptTail _ _ (Value.ref _) _) _ _ _ | show wpAny _ _ (inplaceOp Operator.Mult _ _) _ _ _ | show wpAny _ _ (eval (Expr.Dict _ _ _) _) _ _ _))); first | (k_end; wrow_close) | walk1 | (dsimp only; walk1) | (leave1; walk_say "STEP leave1"; try dsimp only) | fail "no step")))
    · rename News h₀ _ _ _ => kN
      rename (ln.isEmpty = true) => hem
      have hnil : ln = [] := List.isEmpty_iff.mp hem
      subst hnil
      refine hret _ _ [] [] _ _ _ (by assumption) (fun p hp => kN p ?_) (fun p hp => lA p (.tail _ (.tail _ (.tail _ hp)))) hmod hdA PowL.nil (.inl ⟨?_, rfl⟩)
      · rcases List.mem_cons.mp hp with rfl | hp
        · exact .head _
        · exact .tail _ (.tail _ (.tail _ (.tail _ hp)))
      · have := (hE (wv / 2)).mpr
        apply Int.not_lt.mp
        intro hlt
        exact absurd (this ⟨hlt, .inl rfl⟩) (by simp)
    · rename (ln.isEmpty = false) => hem
      rename News _ _ _ _ => N7
      refine sorted_set (by assumption) N7 rfl (N7 _ (.tail _ (.tail _ (.head _)))).1 hN (by (first | lia | omega)) ?_
      intro D h8 vs ns e tk8 dr8 F8 N8 lD hI hperm hpw
      dsimp only at F8 N8 ⊢
      have hnd : ns.Nodup := hperm.nodup_iff.mpr hN.nd
      have hst := rising_of hpw hnd
      have hmem : ∀ x, x ∈ ns ↔ _ := fun x => (hperm.mem_iff).trans (hE x)
      (repeat' (first | (k_unfold; (try dsimp only)) | ((fail_if_success (with_reducible (first | show InvEndN _ _ _ _ _ _ _ | show KswEnd _ _ _ _ _ _ _ _ _ _ _ _ | show WdEnd _ _ _ _ _ _ _ _ _ _ _ | show SrcStep _ _ _ _ _ _ _ _ _ _ _ _ _ _ | show LCg.CompEnd _ _ _ _ _ _ _ _ _ _ _ _ _ _ | show wpAny _ _ (pyIter _) _ _ _ | show wpAny _ _ (subscriptTail _ _ (Value.str _ _) _) _ _ _ | show wpAny _ _ (call (Value.builtin "str.join") _ _) _ _ _ | show wpAny _ _ (call (Value.ref _) _ _) _ _ _ | show wpAny _ _ (exec (Stmt.While _ _ _ _) _) _ _ _ | show wpAny _ _ (binaryOp Operator.LShift _ _) _ _ _ | show wpAny _ _ (binaryOp Operator.Mult _ _) _ _ _ | show wpAny _ _ (binaryOp Operator.Pow _ _) _ _ _ | show wpAny _ _ (eval (Expr.ListComp _ _ _ _) _) _ _ _ | show wpAny _ _ (exec (Stmt.Assign _ (Expr.ListComp _ _ _ _) _) _) _ _ _ | show wpAny _ _ (call (Value.type "set") _ _) _ _ _ | show wpAny _ _ (eval (Expr.Set _ _ _) _) _ _ _ | show wpAny _ _ (getMethod (Value.ref _) _ _) _ _ _ | show wpAny _ _ (call (Value.builtin "set.add") _ _) _ _ _ | show wpAny _ _ (call (Value.builtin "set.pop") _ _) _ _ _ | show wpAny _ _ (compareOp CmpOp.In _ (Value.ref _)) _ _ _ | show wpAny _ _ (truthy (Value.ref _)) _ _ _ | show wpAny _ _ (call (Value.builtin "sorted") _ _) _ _ _ | show OneIn _ _ _ _ _ _ _ _ | show wpAny _ _ (exec (Stmt.For _ _ _ _ _) _) _ _ _ | show LoopD _ _ _ _ _ _ _ _ _ _ _ | show FdEnd _ _ _ _ _ _ _ _ _ _ _ _ | show FdPost _ _ _ _ _ _ _ _ _ _ _ _ _ _ | show wpAny _ _ (call (Value.builtin "iter") _ _) _ _ _ | show wpAny _ _ (call (Value.builtin "next") _ _) _ _ _ | show wpAny _ _ (setItem (Value.ref _) _ _) _ _ _ | show wpAny _ _ (subscriptTail _ _ (Value.ref _) _) _ _ _ | show wpAny _ _ (inplaceOp Operator.Mult _ _) _ _ _ | show wpAny _ _ (eval (Expr.Dict _ _ _) _) _ _ _))); first | (k_end; wrow_close) | walk1 | (dsimp only; walk1) | (leave1; walk_say "STEP leave1"; try dsimp only) | fail "no step")))
      refine iter_list F8 N8 (N8.isList (.head _)) ?_
      intro I h9 io F9 N9 lI hic hid
      dsimp only at F9 N9 ⊢
      (repeat' (first | (k_unfold; (try dsimp only)) | ((fail_if_success (with_reducible (first | show InvEndN _ _ _ _ _ _ _ | show KswEnd _ _ _ _ _ _ _ _ _ _ _ _ | show WdEnd _ _ _ _ _ _ _ _ _ _ _ | show SrcStep _ _ _ _ _ _ _ _ _ _ _ _ _ _ | show LCg.CompEnd _ _ _ _ _ _ _ _ _ _ _ _ _ _ | show wpAny _ _ (pyIter _) _ _ _ | show wpAny _ _ (subscriptTail _ _ (Value.str _ _) _) _ _ _ | show wpAny _ _ (call (Value.builtin "str.join") _ _) _ _ _ | show wpAny _ _ (call (Value.ref _) _ _) _ _ _ | show wpAny _ _ (exec (Stmt.While _ _ _ _) _) _ _ _ | show wpAny _ _ (binaryOp Operator.LShift _ _) _ _ _ | show wpAny _ _ (binaryOp Operator.Mult _ _) _ _ _ | show wpAny _ _ (binaryOp Operator.Pow _ _) _ _ _ | show wpAny _ _ (eval (Expr.ListComp _ _ _ _) _) _ _ _ | show wpAny _ _ (exec (Stmt.Assign _ (Expr.ListComp _ _ _ _) _) _) _ _ _ | show wpAny _ _ (call (Value.type "set") _ _) _ _ _ | show wpAny _ _ (eval (Expr.Set _ _ _) _) _ _ _ | show wpAny _ _ (getMethod (Value.ref _) _ _) _ _ _ | show wpAny _ _ (call (Value.builtin "set.add") _ _) _ _ _ | show wpAny _ _ (call (Value.builtin "set.pop") _ _) _ _ _ | show wpAny _ _ (compareOp CmpOp.In _ (Value.ref _)) _ _ _ | show wpAny _ _ (truthy (Value.ref _)) _ _ _ | show wpAny _ _ (call (Value.builtin "sorted") _ _) _ _ _ | show OneIn _ _ _ _ _ _ _ _ | show wpAny _ _ (exec (Stmt.For _ _ _ _ _) _) _ _ _ | show LoopD _ _ _ _ _ _ _ _ _ _ _ | show FdEnd _ _ _ _ _ _ _ _ _ _ _ _ | show FdPost _ _ _ _ _ _ _ _ _ _ _ _ _ _ | show wpAny _ _ (call (Value.builtin "iter") _ _) _ _ _ | show wpAny _ _ (call (Value.builtin "next") _ _) _ _ _ | show wpAny _ _ (setItem (Value.ref _) _ _) _ _ _ | show wpAny _ _ (subscriptTail _ _ (Value.ref _) _) _ _ _ | show wpAny _ _ (inplaceOp Operator.Mult _ _) _ _ _ | show wpAny _ _ (eval (Expr.Dict _ _ _) _) _ _ _))); first | (k_end; wrow_close) | walk1 | (dsimp only; walk1) | (leave1; walk_say "STEP leave1"; try dsimp only) | fail "no step")))
      have hTW : mt < wv := by
        cases ln with
        | nil => cases hem
        | cons p r => exact ((hE p.1).mp (by simp)).1
      have hcs := need_cases hS hgap hTW hst hmem
      have hch := chain_need hS hcs
      have hbnd : ∀ x ∈ ns, 0 ≤ x ∧ x ≤ 10000 := fun x hx => by
        have := (hmem x).mp hx
        obtain ⟨_, _, _⟩ := hS
        (first | lia | omega)
      obtain ⟨a0, rest, hns⟩ : ∃ a0 rest, ns = a0 :: rest := by
        rcases hcs with ⟨_, e⟩ | ⟨_, e | e⟩ <;> exact ⟨_, _, e⟩
      have hbody : ∃ t0 vrest, vs = .int a0 t0 :: vrest ∧ IntsAre vrest rest := by
        rw [hns] at hI
        cases hI with
        | cons _ t r => exact ⟨t, _, rfl, r⟩
      obtain ⟨t0, vrest, hvs, hIr⟩ := hbody
      rename News _ _ _ _ => N10
      refine next_list (x := .int a0 t0) (i := 0) (items := vs.toArray) (by assumption) N10 (UpdF.head fun p hp => Nat.ne_of_lt (lI p hp)) hic hid (N10.isList (.tail _ (.head _))) (by rw [hvs]; rfl) ?_
      intro h11 io2 F11 N11 hic2 hid2
      dsimp only at F11 N11 ⊢
      (repeat' (first | (k_unfold; (try dsimp only)) | ((fail_if_success (with_reducible (first | show InvEndN _ _ _ _ _ _ _ | show KswEnd _ _ _ _ _ _ _ _ _ _ _ _ | show WdEnd _ _ _ _ _ _ _ _ _ _ _ | show SrcStep _ _ _ _ _ _ _ _ _ _ _ _ _ _ | show LCg.CompEnd _ _ _ _ _ _ _ _ _ _ _ _ _ _ | show wpAny _ _ (pyIter _) _ _ _ | show wpAny _ _ (subscriptTail _ _ (Value.str _ _) _) _ _ _ | show wpAny _ _ (call (Value.builtin "str.join") _ _) _ _ _ | show wpAny _ _ (call (Value.ref _) _ _) _ _ _ | show wpAny _ _ (exec (Stmt.While _ _ _ _) _) _ _ _ | show wpAny _ _ (binaryOp Operator.LShift _ _) _ _ _ | show wpAny _ _ (binaryOp Operator.Mult _ _) _ _ _ | show wpAny _ _ (binaryOp Operator.Pow _ _) _ _ _ | show wpAny _ _ (eval (Expr.ListComp _ _ _ _) _) _ _ _ | show wpAny _ _ (exec (Stmt.Assign _ (Expr.ListComp _ _ _ _) _) _) _ _ _ | show wpAny _ _ (call (Value.type "set") _ _) _ _ _ | show wpAny _ _ (eval (Expr.Set _ _ _) _) _ _ _ | show wpAny _ _ (getMethod (Value.ref _) _ _) _ _ _ | show wpAny _ _ (call (Value.builtin "set.add") _ _) _ _ _ | show wpAny _ _ (call (Value.builtin "set.pop") _ _) _ _ _ | show wpAny _ _ (compareOp CmpOp.In _ (Value.ref _)) _ _ _ | show wpAny _ _ (truthy (Value.ref _)) _ _ _ | show wpAny _ _ (call (Value.builtin "sorted") _ _) _ _ _ | show OneIn _ _ _ _ _ _ _ _ | show wpAny _ _ (exec (Stmt.For _ _ _ _ _) _) _ _ _ | show LoopD _ _ _ _ _ _ _ _ _ _ _ | show FdEnd _ _ _ _ _ _ _ _ _ _ _ _ | show FdPost _ _ _ _ _ _ _ _ _ _ _ _ _ _ | show wpAny _ _ (call (Value.builtin "iter") _ _) _ _ _ | show wpAny _ _ (call (Value.builtin "next") _ _) _ _ _ | show wpAny _ _ (setItem (Value.ref _) _ _) _ _ _ | show wpAny _ _ (subscriptTail _ _ (Value.ref _) _) _ _ _ | show wpAny _ _ (inplaceOp Operator.Mult _ _) _ _ _ | show wpAny _ _ (eval (Expr.Dict _ _ _) _) _ _ _))); first | (k_end; wrow_close) | walk1 | (dsimp only; walk1) | (leave1; walk_say "STEP leave1"; try dsimp only) | fail "no step")))
      have ha0 := hbnd a0 (by rw [hns]; exact .head _)
      refine PyProof.Rows.pow_int ha0.1 (by rw [show Builtin.Int.intBits 5 = 3 from by decide]; (first | lia | omega)) ?_
      (repeat' (first | (k_unfold; (try dsimp only)) | ((fail_if_success (with_reducible (first | show InvEndN _ _ _ _ _ _ _ | show KswEnd _ _ _ _ _ _ _ _ _ _ _ _ | show WdEnd _ _ _ _ _ _ _ _ _ _ _ | show SrcStep _ _ _ _ _ _ _ _ _ _ _ _ _ _ | show LCg.CompEnd _ _ _ _ _ _ _ _ _ _ _ _ _ _ | show wpAny _ _ (pyIter _) _ _ _ | show wpAny _ _ (subscriptTail _ _ (Value.str _ _) _) _ _ _ | show wpAny _ _ (call (Value.builtin "str.join") _ _) _ _ _ | show wpAny _ _ (call (Value.ref _) _ _) _ _ _ | show wpAny _ _ (exec (Stmt.While _ _ _ _) _) _ _ _ | show wpAny _ _ (binaryOp Operator.LShift _ _) _ _ _ | show wpAny _ _ (binaryOp Operator.Mult _ _) _ _ _ | show wpAny _ _ (binaryOp Operator.Pow _ _) _ _ _ | show wpAny _ _ (eval (Expr.ListComp _ _ _ _) _) _ _ _ | show wpAny _ _ (exec (Stmt.Assign _ (Expr.ListComp _ _ _ _) _) _) _ _ _ | show wpAny _ _ (call (Value.type "set") _ _) _ _ _ | show wpAny _ _ (eval (Expr.Set _ _ _) _) _ _ _ | show wpAny _ _ (getMethod (Value.ref _) _ _) _ _ _ | show wpAny _ _ (call (Value.builtin "set.add") _ _) _ _ _ | show wpAny _ _ (call (Value.builtin "set.pop") _ _) _ _ _ | show wpAny _ _ (compareOp CmpOp.In _ (Value.ref _)) _ _ _ | show wpAny _ _ (truthy (Value.ref _)) _ _ _ | show wpAny _ _ (call (Value.builtin "sorted") _ _) _ _ _ | show OneIn _ _ _ _ _ _ _ _ | show wpAny _ _ (exec (Stmt.For _ _ _ _ _) _) _ _ _ | show LoopD _ _ _ _ _ _ _ _ _ _ _ | show FdEnd _ _ _ _ _ _ _ _ _ _ _ _ | show FdPost _ _ _ _ _ _ _ _ _ _ _ _ _ _ | show wpAny _ _ (call (Value.builtin "iter") _ _) _ _ _ | show wpAny _ _ (call (Value.builtin "next") _ _) _ _ _ | show wpAny _ _ (setItem (Value.ref _) _ _) _ _ _ | show wpAny _ _ (subscriptTail _ _ (Value.ref _) _) _ _ _ | show wpAny _ _ (inplaceOp Operator.Mult _ _) _ _ _ | show wpAny _ _ (eval (Expr.Dict _ _ _) _) _ _ _))); first | (k_end; wrow_close) | walk1 | (dsimp only; walk1) | (leave1; walk_say "STEP leave1"; try dsimp only) | fail "no step")))
      rename News _ _ _ _ => N12
      refine kda_set (knd := intKind _ _) (k := a0) (by assumption) N12 (UpdF.tail (Nat.ne_of_gt (lI _ (.tail _ (.head _)))) (UpdF.tail (Nat.ne_of_gt (lD _ (.head _))) (UpdF.head fun p hp => ?_))) hdA (intKind_is _ _ _ _) (by decide) ?_
      · exact Nat.ne_of_lt (lA p hp)
      intro h13 od F13 N13 hod
      dsimp only at F13 N13 ⊢
      have hP0 := fun t => PowL.store PowL.nil (k := a0) (t := t) (by simp) ha0.1
      rw [(hP0 _).1] at hod
      (repeat' (first | (k_unfold; (try dsimp only)) | ((fail_if_success (with_reducible (first | show InvEndN _ _ _ _ _ _ _ | show KswEnd _ _ _ _ _ _ _ _ _ _ _ _ | show WdEnd _ _ _ _ _ _ _ _ _ _ _ | show SrcStep _ _ _ _ _ _ _ _ _ _ _ _ _ _ | show LCg.CompEnd _ _ _ _ _ _ _ _ _ _ _ _ _ _ | show wpAny _ _ (pyIter _) _ _ _ | show wpAny _ _ (subscriptTail _ _ (Value.str _ _) _) _ _ _ | show wpAny _ _ (call (Value.builtin "str.join") _ _) _ _ _ | show wpAny _ _ (call (Value.ref _) _ _) _ _ _ | show wpAny _ _ (exec (Stmt.While _ _ _ _) _) _ _ _ | show wpAny _ _ (binaryOp Operator.LShift _ _) _ _ _ | show wpAny _ _ (binaryOp Operator.Mult _ _) _ _ _ | show wpAny _ _ (binaryOp Operator.Pow _ _) _ _ _ | show wpAny _ _ (eval (Expr.ListComp _ _ _ _) _) _ _ _ | show wpAny _ _ (exec (Stmt.Assign _ (Expr.ListComp _ _ _ _) _) _) _ _ _ | show wpAny _ _ (call (Value.type "set") _ _) _ _ _ | show wpAny _ _ (eval (Expr.Set _ _ _) _) _ _ _ | show wpAny _ _ (getMethod (Value.ref _) _ _) _ _ _ | show wpAny _ _ (call (Value.builtin "set.add") _ _) _ _ _ | show wpAny _ _ (call (Value.builtin "set.pop") _ _) _ _ _ | show wpAny _ _ (compareOp CmpOp.In _ (Value.ref _)) _ _ _ | show wpAny _ _ (truthy (Value.ref _)) _ _ _ | show wpAny _ _ (call (Value.builtin "sorted") _ _) _ _ _ | show OneIn _ _ _ _ _ _ _ _ | show wpAny _ _ (exec (Stmt.For _ _ _ _ _) _) _ _ _ | show LoopD _ _ _ _ _ _ _ _ _ _ _ | show FdEnd _ _ _ _ _ _ _ _ _ _ _ _ | show FdPost _ _ _ _ _ _ _ _ _ _ _ _ _ _ | show wpAny _ _ (call (Value.builtin "iter") _ _) _ _ _ | show wpAny _ _ (call (Value.builtin "next") _ _) _ _ _ | show wpAny _ _ (setItem (Value.ref _) _ _) _ _ _ | show wpAny _ _ (subscriptTail _ _ (Value.ref _) _) _ _ _ | show wpAny _ _ (inplaceOp Operator.Mult _ _) _ _ _ | show wpAny _ _ (eval (Expr.Dict _ _ _) _) _ _ _))); first | (k_end; wrow_close) | walk1 | (dsimp only; walk1) | (leave1; walk_say "STEP leave1"; try dsimp only) | fail "no step")))
      have hDI : D ≠ I := Nat.ne_of_lt (lI _ (.head _))
      refine For_D (by assumption) rfl rfl ?_
      (repeat' (first | (k_unfold; (try dsimp only)) | ((fail_if_success (with_reducible (first | show InvEndN _ _ _ _ _ _ _ | show KswEnd _ _ _ _ _ _ _ _ _ _ _ _ | show WdEnd _ _ _ _ _ _ _ _ _ _ _ | show SrcStep _ _ _ _ _ _ _ _ _ _ _ _ _ _ | show LCg.CompEnd _ _ _ _ _ _ _ _ _ _ _ _ _ _ | show wpAny _ _ (pyIter _) _ _ _ | show wpAny _ _ (subscriptTail _ _ (Value.str _ _) _) _ _ _ | show wpAny _ _ (call (Value.builtin "str.join") _ _) _ _ _ | show wpAny _ _ (call (Value.ref _) _ _) _ _ _ | show wpAny _ _ (exec (Stmt.While _ _ _ _) _) _ _ _ | show wpAny _ _ (binaryOp Operator.LShift _ _) _ _ _ | show wpAny _ _ (binaryOp Operator.Mult _ _) _ _ _ | show wpAny _ _ (binaryOp Operator.Pow _ _) _ _ _ | show wpAny _ _ (eval (Expr.ListComp _ _ _ _) _) _ _ _ | show wpAny _ _ (exec (Stmt.Assign _ (Expr.ListComp _ _ _ _) _) _) _ _ _ | show wpAny _ _ (call (Value.type "set") _ _) _ _ _ | show wpAny _ _ (eval (Expr.Set _ _ _) _) _ _ _ | show wpAny _ _ (getMethod (Value.ref _) _ _) _ _ _ | show wpAny _ _ (call (Value.builtin "set.add") _ _) _ _ _ | show wpAny _ _ (call (Value.builtin "set.pop") _ _) _ _ _ | show wpAny _ _ (compareOp CmpOp.In _ (Value.ref _)) _ _ _ | show wpAny _ _ (truthy (Value.ref _)) _ _ _ | show wpAny _ _ (call (Value.builtin "sorted") _ _) _ _ _ | show OneIn _ _ _ _ _ _ _ _ | show wpAny _ _ (exec (Stmt.For _ _ _ _ _) _) _ _ _ | show LoopD _ _ _ _ _ _ _ _ _ _ _ | show FdEnd _ _ _ _ _ _ _ _ _ _ _ _ | show FdPost _ _ _ _ _ _ _ _ _ _ _ _ _ _ | show wpAny _ _ (call (Value.builtin "iter") _ _) _ _ _ | show wpAny _ _ (call (Value.builtin "next") _ _) _ _ _ | show wpAny _ _ (setItem (Value.ref _) _ _) _ _ _ | show wpAny _ _ (subscriptTail _ _ (Value.ref _) _) _ _ _ | show wpAny _ _ (inplaceOp Operator.Mult _ _) _ _ _ | show wpAny _ _ (eval (Expr.Dict _ _ _) _) _ _ _))); first | (k_end; wrow_close) | walk1 | (dsimp only; walk1) | (leave1; walk_say "STEP leave1"; try dsimp only) | fail "no step")))
      rename News _ _ _ _ => N14
      rename Fr _ _ _ _ => F14
      refine wpAny_pyIter_listiter ⟨io2, (N14 _ (.head _)).1, hic2, hid2⟩ ?_
      refine LoopD.intro (σ := Obj × List (Int × Value)) (fun c => (dA, c.1) :: news) (fun _ => []) [Str.ofString "lo", Str.ofString "hi", Str.ofString "sq"]
        (fun i c => c.1.IsDictOf (intKind Challenge.rw_lo0013_01.row.prog w) c.2 ∧ PowL c.2 (ns.take (i + 1))) (od, _)
        (walks_from (Walks.list rfl I D hDI vs.toArray) 1 (by rw [hvs]; simp)) ?_ ?_ ?_ ⟨⟨io2, (N14 _ (.head _)).1, hic2, hid2⟩, N14.isList (.tail _ (.head _))⟩ F14 ?_ (List.forall_mem_nil _) ⟨hod, ?_⟩ ?_ ?_
      · intro hb
        rcases List.mem_cons.mp hb with e | hb
        · exact (N14 _ (.head _)).2.1 e.symm
        · exact (N14 _ (.tail _ (.head _))).2.1 (List.mem_singleton.mp hb).symm
      · intro b hb
        rw [List.mem_singleton.mp hb]
        exact (N14 _ (.head _)).2.2
      · intro i c _ p hp hb
        have hpD : (p.1 : Nat) < D := by
          rcases List.mem_cons.mp hp with e | hp
          · rw [e]; exact lD (dA, oA) (.head _)
          · exact lD p (.tail _ (.tail _ (.tail _ (.tail _ hp))))
        have hDI' : (D : Nat) < I := lI _ (.head _)
        rcases List.mem_cons.mp hb with e | hb
        · rw [e] at hpD; exact absurd (Nat.lt_trans hpD hDI') (Nat.lt_irrefl _)
        · rw [List.mem_singleton.mp hb] at hpD; exact absurd hpD (Nat.lt_irrefl _)
      · intro p hp
        rcases List.mem_cons.mp hp with rfl | hp
        · exact N14 _ (.tail _ (.tail _ (.head _)))
        · exact N14 _ (.tail _ (.tail _ (.tail _ (.tail _ (.tail _ (.tail _ hp))))))
      · rw [hns]; exact (hP0 _).2
      · rintro c i v u h tk dr own hi hV hown ⟨hDc, hPc⟩ FT NT
        obtain ⟨n, tn, rfl, hn⟩ := IntsAre.at hI (1 + i) v (by simpa using hV)
        rw [Nat.add_comm 1 i] at hn
        obtain ⟨h1n, hnin, hlo⟩ := hch i n hn
        have hnb := hbnd n (List.mem_of_getElem? hn)
        have htake : ns.take (i + 1 + 1) = ns.take (i + 1) ++ [n] := by
          rw [List.take_add_one, hn]; rfl
        have hszc : c.2.length ≤ sizeLine := by
          have h1 := congrArg List.length hPc.1
          rw [List.length_map, List.length_take] at h1
          have h2 : (100000 : Nat) < sizeLine := by decide +kernel
          have h3 := hI.length
          have h4 : vs.length ≤ 3 := by rw [← h3.symm]; have := hperm.length_eq; rw [List.length_map] at this; (first | lia | omega)
          (first | lia | omega)
        have hUp : UpdF dA c.1 ((dA, c.1) :: news ++ own) (fun o => (dA, o) :: news ++ own) := by
          refine UpdF.head fun p hp => ?_
          rcases List.mem_append.mp hp with hp | hp
          · exact Nat.ne_of_lt (lA p (.tail _ (.tail _ (.tail _ hp))))
          · have hf := hown p hp
            have h1 : (dA : Nat) < D := lD (dA, oA) (.head _)
            have h2 : (D : Nat) < I := lI _ (.head _)
            rcases List.mem_cons.mp hf with e | hf
            · rw [e]; exact Nat.ne_of_gt (Nat.lt_trans h1 h2)
            · rw [List.mem_singleton.mp hf]; exact Nat.ne_of_gt h1
        (repeat' (first | (k_unfold; (try dsimp only)) | ((fail_if_success (with_reducible (first | show InvEndN _ _ _ _ _ _ _ | show KswEnd _ _ _ _ _ _ _ _ _ _ _ _ | show WdEnd _ _ _ _ _ _ _ _ _ _ _ | show SrcStep _ _ _ _ _ _ _ _ _ _ _ _ _ _ | show LCg.CompEnd _ _ _ _ _ _ _ _ _ _ _ _ _ _ | show wpAny _ _ (pyIter _) _ _ _ | show wpAny _ _ (subscriptTail _ _ (Value.str _ _) _) _ _ _ | show wpAny _ _ (call (Value.builtin "str.join") _ _) _ _ _ | show wpAny _ _ (call (Value.ref _) _ _) _ _ _ | show wpAny _ _ (exec (Stmt.While _ _ _ _) _) _ _ _ | show wpAny _ _ (binaryOp Operator.LShift _ _) _ _ _ | show wpAny _ _ (binaryOp Operator.Mult _ _) _ _ _ | show wpAny _ _ (binaryOp Operator.Pow _ _) _ _ _ | show wpAny _ _ (eval (Expr.ListComp _ _ _ _) _) _ _ _ | show wpAny _ _ (exec (Stmt.Assign _ (Expr.ListComp _ _ _ _) _) _) _ _ _ | show wpAny _ _ (call (Value.type "set") _ _) _ _ _ | show wpAny _ _ (eval (Expr.Set _ _ _) _) _ _ _ | show wpAny _ _ (getMethod (Value.ref _) _ _) _ _ _ | show wpAny _ _ (call (Value.builtin "set.add") _ _) _ _ _ | show wpAny _ _ (call (Value.builtin "set.pop") _ _) _ _ _ | show wpAny _ _ (compareOp CmpOp.In _ (Value.ref _)) _ _ _ | show wpAny _ _ (truthy (Value.ref _)) _ _ _ | show wpAny _ _ (call (Value.builtin "sorted") _ _) _ _ _ | show OneIn _ _ _ _ _ _ _ _ | show wpAny _ _ (exec (Stmt.For _ _ _ _ _) _) _ _ _ | show LoopD _ _ _ _ _ _ _ _ _ _ _ | show FdEnd _ _ _ _ _ _ _ _ _ _ _ _ | show FdPost _ _ _ _ _ _ _ _ _ _ _ _ _ _ | show wpAny _ _ (call (Value.builtin "iter") _ _) _ _ _ | show wpAny _ _ (call (Value.builtin "next") _ _) _ _ _ | show wpAny _ _ (setItem (Value.ref _) _ _) _ _ _ | show wpAny _ _ (subscriptTail _ _ (Value.ref _) _) _ _ _ | show wpAny _ _ (inplaceOp Operator.Mult _ _) _ _ _ | show wpAny _ _ (eval (Expr.Dict _ _ _) _) _ _ _))); first | (k_end; wrow_close) | walk1 | (dsimp only; walk1) | (leave1; walk_say "STEP leave1"; try dsimp only) | fail "no step")))
        · rename News _ _ _ _ => NU
          refine kda_in (knd := intKind _ _) (k := n - 1) NU (.head _) hDc hmod (intKind_is _ _ _ _) _ (hPc.has _) ?_
          by_cases hm1 : n - 1 ∈ ns.take (i + 1)
          · rw [decide_eq_true hm1]
            (repeat' (first | (k_unfold; (try dsimp only)) | ((fail_if_success (with_reducible (first | show InvEndN _ _ _ _ _ _ _ | show KswEnd _ _ _ _ _ _ _ _ _ _ _ _ | show WdEnd _ _ _ _ _ _ _ _ _ _ _ | show SrcStep _ _ _ _ _ _ _ _ _ _ _ _ _ _ | show LCg.CompEnd _ _ _ _ _ _ _ _ _ _ _ _ _ _ | show wpAny _ _ (pyIter _) _ _ _ | show wpAny _ _ (subscriptTail _ _ (Value.str _ _) _) _ _ _ | show wpAny _ _ (call (Value.builtin "str.join") _ _) _ _ _ | show wpAny _ _ (call (Value.ref _) _ _) _ _ _ | show wpAny _ _ (exec (Stmt.While _ _ _ _) _) _ _ _ | show wpAny _ _ (binaryOp Operator.LShift _ _) _ _ _ | show wpAny _ _ (binaryOp Operator.Mult _ _) _ _ _ | show wpAny _ _ (binaryOp Operator.Pow _ _) _ _ _ | show wpAny _ _ (eval (Expr.ListComp _ _ _ _) _) _ _ _ | show wpAny _ _ (exec (Stmt.Assign _ (Expr.ListComp _ _ _ _) _) _) _ _ _ | show wpAny _ _ (call (Value.type "set") _ _) _ _ _ | show wpAny _ _ (eval (Expr.Set _ _ _) _) _ _ _ | show wpAny _ _ (getMethod (Value.ref _) _ _) _ _ _ | show wpAny _ _ (call (Value.builtin "set.add") _ _) _ _ _ | show wpAny _ _ (call (Value.builtin "set.pop") _ _) _ _ _ | show wpAny _ _ (compareOp CmpOp.In _ (Value.ref _)) _ _ _ | show wpAny _ _ (truthy (Value.ref _)) _ _ _ | show wpAny _ _ (call (Value.builtin "sorted") _ _) _ _ _ | show OneIn _ _ _ _ _ _ _ _ | show wpAny _ _ (exec (Stmt.For _ _ _ _ _) _) _ _ _ | show LoopD _ _ _ _ _ _ _ _ _ _ _ | show FdEnd _ _ _ _ _ _ _ _ _ _ _ _ | show FdPost _ _ _ _ _ _ _ _ _ _ _ _ _ _ | show wpAny _ _ (call (Value.builtin "iter") _ _) _ _ _ | show wpAny _ _ (call (Value.builtin "next") _ _) _ _ _ | show wpAny _ _ (setItem (Value.ref _) _ _) _ _ _ | show wpAny _ _ (subscriptTail _ _ (Value.ref _) _) _ _ _ | show wpAny _ _ (inplaceOp Operator.Mult _ _) _ _ _ | show wpAny _ _ (eval (Expr.Dict _ _ _) _) _ _ _))); first | (k_end; wrow_close) | walk1 | (dsimp only; walk1) | (leave1; walk_say "STEP leave1"; try dsimp only) | fail "no step")))
            obtain ⟨tv, hv⟩ := hPc.value hm1
            refine kda_item (knd := intKind _ _) (k := n - 1) NU (.head _) hDc (intKind_is _ _ _ _) hv ?_
            (repeat' (first | (k_unfold; (try dsimp only)) | ((fail_if_success (with_reducible (first | show InvEndN _ _ _ _ _ _ _ | show KswEnd _ _ _ _ _ _ _ _ _ _ _ _ | show WdEnd _ _ _ _ _ _ _ _ _ _ _ | show SrcStep _ _ _ _ _ _ _ _ _ _ _ _ _ _ | show LCg.CompEnd _ _ _ _ _ _ _ _ _ _ _ _ _ _ | show wpAny _ _ (pyIter _) _ _ _ | show wpAny _ _ (subscriptTail _ _ (Value.str _ _) _) _ _ _ | show wpAny _ _ (call (Value.builtin "str.join") _ _) _ _ _ | show wpAny _ _ (call (Value.ref _) _ _) _ _ _ | show wpAny _ _ (exec (Stmt.While _ _ _ _) _) _ _ _ | show wpAny _ _ (binaryOp Operator.LShift _ _) _ _ _ | show wpAny _ _ (binaryOp Operator.Mult _ _) _ _ _ | show wpAny _ _ (binaryOp Operator.Pow _ _) _ _ _ | show wpAny _ _ (eval (Expr.ListComp _ _ _ _) _) _ _ _ | show wpAny _ _ (exec (Stmt.Assign _ (Expr.ListComp _ _ _ _) _) _) _ _ _ | show wpAny _ _ (call (Value.type "set") _ _) _ _ _ | show wpAny _ _ (eval (Expr.Set _ _ _) _) _ _ _ | show wpAny _ _ (getMethod (Value.ref _) _ _) _ _ _ | show wpAny _ _ (call (Value.builtin "set.add") _ _) _ _ _ | show wpAny _ _ (call (Value.builtin "set.pop") _ _) _ _ _ | show wpAny _ _ (compareOp CmpOp.In _ (Value.ref _)) _ _ _ | show wpAny _ _ (truthy (Value.ref _)) _ _ _ | show wpAny _ _ (call (Value.builtin "sorted") _ _) _ _ _ | show OneIn _ _ _ _ _ _ _ _ | show wpAny _ _ (exec (Stmt.For _ _ _ _ _) _) _ _ _ | show LoopD _ _ _ _ _ _ _ _ _ _ _ | show FdEnd _ _ _ _ _ _ _ _ _ _ _ _ | show FdPost _ _ _ _ _ _ _ _ _ _ _ _ _ _ | show wpAny _ _ (call (Value.builtin "iter") _ _) _ _ _ | show wpAny _ _ (call (Value.builtin "next") _ _) _ _ _ | show wpAny _ _ (setItem (Value.ref _) _ _) _ _ _ | show wpAny _ _ (subscriptTail _ _ (Value.ref _) _) _ _ _ | show wpAny _ _ (inplaceOp Operator.Mult _ _) _ _ _ | show wpAny _ _ (eval (Expr.Dict _ _ _) _) _ _ _))); first | (k_end; wrow_close) | walk1 | (dsimp only; walk1) | (leave1; walk_say "STEP leave1"; try dsimp only) | fail "no step")))
            refine PyProof.Rows.mul_int ?_ (IntMulOk.of_right (by decide))
            rw [five_succ h1n]
            (repeat' (first | (k_unfold; (try dsimp only)) | ((fail_if_success (with_reducible (first | show InvEndN _ _ _ _ _ _ _ | show KswEnd _ _ _ _ _ _ _ _ _ _ _ _ | show WdEnd _ _ _ _ _ _ _ _ _ _ _ | show SrcStep _ _ _ _ _ _ _ _ _ _ _ _ _ _ | show LCg.CompEnd _ _ _ _ _ _ _ _ _ _ _ _ _ _ | show wpAny _ _ (pyIter _) _ _ _ | show wpAny _ _ (subscriptTail _ _ (Value.str _ _) _) _ _ _ | show wpAny _ _ (call (Value.builtin "str.join") _ _) _ _ _ | show wpAny _ _ (call (Value.ref _) _ _) _ _ _ | show wpAny _ _ (exec (Stmt.While _ _ _ _) _) _ _ _ | show wpAny _ _ (binaryOp Operator.LShift _ _) _ _ _ | show wpAny _ _ (binaryOp Operator.Mult _ _) _ _ _ | show wpAny _ _ (binaryOp Operator.Pow _ _) _ _ _ | show wpAny _ _ (eval (Expr.ListComp _ _ _ _) _) _ _ _ | show wpAny _ _ (exec (Stmt.Assign _ (Expr.ListComp _ _ _ _) _) _) _ _ _ | show wpAny _ _ (call (Value.type "set") _ _) _ _ _ | show wpAny _ _ (eval (Expr.Set _ _ _) _) _ _ _ | show wpAny _ _ (getMethod (Value.ref _) _ _) _ _ _ | show wpAny _ _ (call (Value.builtin "set.add") _ _) _ _ _ | show wpAny _ _ (call (Value.builtin "set.pop") _ _) _ _ _ | show wpAny _ _ (compareOp CmpOp.In _ (Value.ref _)) _ _ _ | show wpAny _ _ (truthy (Value.ref _)) _ _ _ | show wpAny _ _ (call (Value.builtin "sorted") _ _) _ _ _ | show OneIn _ _ _ _ _ _ _ _ | show wpAny _ _ (exec (Stmt.For _ _ _ _ _) _) _ _ _ | show LoopD _ _ _ _ _ _ _ _ _ _ _ | show FdEnd _ _ _ _ _ _ _ _ _ _ _ _ | show FdPost _ _ _ _ _ _ _ _ _ _ _ _ _ _ | show wpAny _ _ (call (Value.builtin "iter") _ _) _ _ _ | show wpAny _ _ (call (Value.builtin "next") _ _) _ _ _ | show wpAny _ _ (setItem (Value.ref _) _ _) _ _ _ | show wpAny _ _ (subscriptTail _ _ (Value.ref _) _) _ _ _ | show wpAny _ _ (inplaceOp Operator.Mult _ _) _ _ _ | show wpAny _ _ (eval (Expr.Dict _ _ _) _) _ _ _))); first | (k_end; wrow_close) | walk1 | (dsimp only; walk1) | (leave1; walk_say "STEP leave1"; try dsimp only) | fail "no step")))
            refine kda_set (knd := intKind _ _) (k := n) (by assumption) NU hUp hDc (intKind_is _ _ _ _) hszc ?_
            intro hS2 oS2 FS NS hos
            dsimp only at FS NS ⊢
            rw [(hPc.store (t := _) hnin hnb.1).1] at hos
            (repeat' (first | (k_unfold; (try dsimp only)) | ((fail_if_success (with_reducible (first | show InvEndN _ _ _ _ _ _ _ | show KswEnd _ _ _ _ _ _ _ _ _ _ _ _ | show WdEnd _ _ _ _ _ _ _ _ _ _ _ | show SrcStep _ _ _ _ _ _ _ _ _ _ _ _ _ _ | show LCg.CompEnd _ _ _ _ _ _ _ _ _ _ _ _ _ _ | show wpAny _ _ (pyIter _) _ _ _ | show wpAny _ _ (subscriptTail _ _ (Value.str _ _) _) _ _ _ | show wpAny _ _ (call (Value.builtin "str.join") _ _) _ _ _ | show wpAny _ _ (call (Value.ref _) _ _) _ _ _ | show wpAny _ _ (exec (Stmt.While _ _ _ _) _) _ _ _ | show wpAny _ _ (binaryOp Operator.LShift _ _) _ _ _ | show wpAny _ _ (binaryOp Operator.Mult _ _) _ _ _ | show wpAny _ _ (binaryOp Operator.Pow _ _) _ _ _ | show wpAny _ _ (eval (Expr.ListComp _ _ _ _) _) _ _ _ | show wpAny _ _ (exec (Stmt.Assign _ (Expr.ListComp _ _ _ _) _) _) _ _ _ | show wpAny _ _ (call (Value.type "set") _ _) _ _ _ | show wpAny _ _ (eval (Expr.Set _ _ _) _) _ _ _ | show wpAny _ _ (getMethod (Value.ref _) _ _) _ _ _ | show wpAny _ _ (call (Value.builtin "set.add") _ _) _ _ _ | show wpAny _ _ (call (Value.builtin "set.pop") _ _) _ _ _ | show wpAny _ _ (compareOp CmpOp.In _ (Value.ref _)) _ _ _ | show wpAny _ _ (truthy (Value.ref _)) _ _ _ | show wpAny _ _ (call (Value.builtin "sorted") _ _) _ _ _ | show OneIn _ _ _ _ _ _ _ _ | show wpAny _ _ (exec (Stmt.For _ _ _ _ _) _) _ _ _ | show LoopD _ _ _ _ _ _ _ _ _ _ _ | show FdEnd _ _ _ _ _ _ _ _ _ _ _ _ | show FdPost _ _ _ _ _ _ _ _ _ _ _ _ _ _ | show wpAny _ _ (call (Value.builtin "iter") _ _) _ _ _ | show wpAny _ _ (call (Value.builtin "next") _ _) _ _ _ | show wpAny _ _ (setItem (Value.ref _) _ _) _ _ _ | show wpAny _ _ (subscriptTail _ _ (Value.ref _) _) _ _ _ | show wpAny _ _ (inplaceOp Operator.Mult _ _) _ _ _ | show wpAny _ _ (eval (Expr.Dict _ _ _) _) _ _ _))); first | (k_end; wrow_close) | walk1 | (dsimp only; walk1) | (leave1; walk_say "STEP leave1"; try dsimp only) | fail "no step")))
            refine fd_next ?_
            refine fd_end (oS2, _) (by assumption) NS (fun p hp => List.mem_append_left _ hp) (fun p hp => List.mem_append_right _ hp) (List.forall_mem_nil _) ?_ ⟨hos, ?_⟩
            · intro z hz _ h3
              simp only [List.contains_cons, List.contains_nil, Bool.or_false, Bool.or_eq_false_iff, beq_eq_false_iff_ne, ne_eq] at h3
              simp [h3, hz, kstB]
            · rw [htake]
              exact (hPc.store hnin hnb.1).2
          · rw [decide_eq_false hm1]
            have hlo2 : n / 2 ∈ ns.take (i + 1) := hlo.resolve_left hm1
            (repeat' (first | (k_unfold; (try dsimp only)) | ((fail_if_success (with_reducible (first | show InvEndN _ _ _ _ _ _ _ | show KswEnd _ _ _ _ _ _ _ _ _ _ _ _ | show WdEnd _ _ _ _ _ _ _ _ _ _ _ | show SrcStep _ _ _ _ _ _ _ _ _ _ _ _ _ _ | show LCg.CompEnd _ _ _ _ _ _ _ _ _ _ _ _ _ _ | show wpAny _ _ (pyIter _) _ _ _ | show wpAny _ _ (subscriptTail _ _ (Value.str _ _) _) _ _ _ | show wpAny _ _ (call (Value.builtin "str.join") _ _) _ _ _ | show wpAny _ _ (call (Value.ref _) _ _) _ _ _ | show wpAny _ _ (exec (Stmt.While _ _ _ _) _) _ _ _ | show wpAny _ _ (binaryOp Operator.LShift _ _) _ _ _ | show wpAny _ _ (binaryOp Operator.Mult _ _) _ _ _ | show wpAny _ _ (binaryOp Operator.Pow _ _) _ _ _ | show wpAny _ _ (eval (Expr.ListComp _ _ _ _) _) _ _ _ | show wpAny _ _ (exec (Stmt.Assign _ (Expr.ListComp _ _ _ _) _) _) _ _ _ | show wpAny _ _ (call (Value.type "set") _ _) _ _ _ | show wpAny _ _ (eval (Expr.Set _ _ _) _) _ _ _ | show wpAny _ _ (getMethod (Value.ref _) _ _) _ _ _ | show wpAny _ _ (call (Value.builtin "set.add") _ _) _ _ _ | show wpAny _ _ (call (Value.builtin "set.pop") _ _) _ _ _ | show wpAny _ _ (compareOp CmpOp.In _ (Value.ref _)) _ _ _ | show wpAny _ _ (truthy (Value.ref _)) _ _ _ | show wpAny _ _ (call (Value.builtin "sorted") _ _) _ _ _ | show OneIn _ _ _ _ _ _ _ _ | show wpAny _ _ (exec (Stmt.For _ _ _ _ _) _) _ _ _ | show LoopD _ _ _ _ _ _ _ _ _ _ _ | show FdEnd _ _ _ _ _ _ _ _ _ _ _ _ | show FdPost _ _ _ _ _ _ _ _ _ _ _ _ _ _ | show wpAny _ _ (call (Value.builtin "iter") _ _) _ _ _ | show wpAny _ _ (call (Value.builtin "next") _ _) _ _ _ | show wpAny _ _ (setItem (Value.ref _) _ _) _ _ _ | show wpAny _ _ (subscriptTail _ _ (Value.ref _) _) _ _ _ | show wpAny _ _ (inplaceOp Operator.Mult _ _) _ _ _ | show wpAny _ _ (eval (Expr.Dict _ _ _) _) _ _ _))); first | (k_end; wrow_close) | walk1 | (dsimp only; walk1) | (leave1; walk_say "STEP leave1"; try dsimp only) | fail "no step")))
            rename News _ _ _ _ => NV
            simp only [half_fdiv]
            refine kda_in (knd := intKind _ _) (k := n / 2) NV (.head _) hDc hmod (intKind_is _ _ _ _) _ (hPc.has _) ?_
            rw [decide_eq_true hlo2]
            (repeat' (first | (k_unfold; (try dsimp only)) | ((fail_if_success (with_reducible (first | show InvEndN _ _ _ _ _ _ _ | show KswEnd _ _ _ _ _ _ _ _ _ _ _ _ | show WdEnd _ _ _ _ _ _ _ _ _ _ _ | show SrcStep _ _ _ _ _ _ _ _ _ _ _ _ _ _ | show LCg.CompEnd _ _ _ _ _ _ _ _ _ _ _ _ _ _ | show wpAny _ _ (pyIter _) _ _ _ | show wpAny _ _ (subscriptTail _ _ (Value.str _ _) _) _ _ _ | show wpAny _ _ (call (Value.builtin "str.join") _ _) _ _ _ | show wpAny _ _ (call (Value.ref _) _ _) _ _ _ | show wpAny _ _ (exec (Stmt.While _ _ _ _) _) _ _ _ | show wpAny _ _ (binaryOp Operator.LShift _ _) _ _ _ | show wpAny _ _ (binaryOp Operator.Mult _ _) _ _ _ | show wpAny _ _ (binaryOp Operator.Pow _ _) _ _ _ | show wpAny _ _ (eval (Expr.ListComp _ _ _ _) _) _ _ _ | show wpAny _ _ (exec (Stmt.Assign _ (Expr.ListComp _ _ _ _) _) _) _ _ _ | show wpAny _ _ (call (Value.type "set") _ _) _ _ _ | show wpAny _ _ (eval (Expr.Set _ _ _) _) _ _ _ | show wpAny _ _ (getMethod (Value.ref _) _ _) _ _ _ | show wpAny _ _ (call (Value.builtin "set.add") _ _) _ _ _ | show wpAny _ _ (call (Value.builtin "set.pop") _ _) _ _ _ | show wpAny _ _ (compareOp CmpOp.In _ (Value.ref _)) _ _ _ | show wpAny _ _ (truthy (Value.ref _)) _ _ _ | show wpAny _ _ (call (Value.builtin "sorted") _ _) _ _ _ | show OneIn _ _ _ _ _ _ _ _ | show wpAny _ _ (exec (Stmt.For _ _ _ _ _) _) _ _ _ | show LoopD _ _ _ _ _ _ _ _ _ _ _ | show FdEnd _ _ _ _ _ _ _ _ _ _ _ _ | show FdPost _ _ _ _ _ _ _ _ _ _ _ _ _ _ | show wpAny _ _ (call (Value.builtin "iter") _ _) _ _ _ | show wpAny _ _ (call (Value.builtin "next") _ _) _ _ _ | show wpAny _ _ (setItem (Value.ref _) _ _) _ _ _ | show wpAny _ _ (subscriptTail _ _ (Value.ref _) _) _ _ _ | show wpAny _ _ (inplaceOp Operator.Mult _ _) _ _ _ | show wpAny _ _ (eval (Expr.Dict _ _ _) _) _ _ _))); first | (k_end; wrow_close) | walk1 | (dsimp only; walk1) | (leave1; walk_say "STEP leave1"; try dsimp only) | fail "no step")))
            obtain ⟨tv, hv⟩ := hPc.value hlo2
            simp only [half_fdiv]
            refine kda_item (knd := intKind _ _) (k := n / 2) NV (.head _) hDc (intKind_is _ _ _ _) hv ?_
            (repeat' (first | (k_unfold; (try dsimp only)) | ((fail_if_success (with_reducible (first | show InvEndN _ _ _ _ _ _ _ | show KswEnd _ _ _ _ _ _ _ _ _ _ _ _ | show WdEnd _ _ _ _ _ _ _ _ _ _ _ | show SrcStep _ _ _ _ _ _ _ _ _ _ _ _ _ _ | show LCg.CompEnd _ _ _ _ _ _ _ _ _ _ _ _ _ _ | show wpAny _ _ (pyIter _) _ _ _ | show wpAny _ _ (subscriptTail _ _ (Value.str _ _) _) _ _ _ | show wpAny _ _ (call (Value.builtin "str.join") _ _) _ _ _ | show wpAny _ _ (call (Value.ref _) _ _) _ _ _ | show wpAny _ _ (exec (Stmt.While _ _ _ _) _) _ _ _ | show wpAny _ _ (binaryOp Operator.LShift _ _) _ _ _ | show wpAny _ _ (binaryOp Operator.Mult _ _) _ _ _ | show wpAny _ _ (binaryOp Operator.Pow _ _) _ _ _ | show wpAny _ _ (eval (Expr.ListComp _ _ _ _) _) _ _ _ | show wpAny _ _ (exec (Stmt.Assign _ (Expr.ListComp _ _ _ _) _) _) _ _ _ | show wpAny _ _ (call (Value.type "set") _ _) _ _ _ | show wpAny _ _ (eval (Expr.Set _ _ _) _) _ _ _ | show wpAny _ _ (getMethod (Value.ref _) _ _) _ _ _ | show wpAny _ _ (call (Value.builtin "set.add") _ _) _ _ _ | show wpAny _ _ (call (Value.builtin "set.pop") _ _) _ _ _ | show wpAny _ _ (compareOp CmpOp.In _ (Value.ref _)) _ _ _ | show wpAny _ _ (truthy (Value.ref _)) _ _ _ | show wpAny _ _ (call (Value.builtin "sorted") _ _) _ _ _ | show OneIn _ _ _ _ _ _ _ _ | show wpAny _ _ (exec (Stmt.For _ _ _ _ _) _) _ _ _ | show LoopD _ _ _ _ _ _ _ _ _ _ _ | show FdEnd _ _ _ _ _ _ _ _ _ _ _ _ | show FdPost _ _ _ _ _ _ _ _ _ _ _ _ _ _ | show wpAny _ _ (call (Value.builtin "iter") _ _) _ _ _ | show wpAny _ _ (call (Value.builtin "next") _ _) _ _ _ | show wpAny _ _ (setItem (Value.ref _) _ _) _ _ _ | show wpAny _ _ (subscriptTail _ _ (Value.ref _) _) _ _ _ | show wpAny _ _ (inplaceOp Operator.Mult _ _) _ _ _ | show wpAny _ _ (eval (Expr.Dict _ _ _) _) _ _ _))); first | (k_end; wrow_close) | walk1 | (dsimp only; walk1) | (leave1; walk_say "STEP leave1"; try dsimp only) | fail "no step")))
            simp only [half_fdiv]
            refine kda_item (knd := intKind _ _) (k := n / 2) NV (.head _) hDc (intKind_is _ _ _ _) hv ?_
            (repeat' (first | (k_unfold; (try dsimp only)) | ((fail_if_success (with_reducible (first | show InvEndN _ _ _ _ _ _ _ | show KswEnd _ _ _ _ _ _ _ _ _ _ _ _ | show WdEnd _ _ _ _ _ _ _ _ _ _ _ | show SrcStep _ _ _ _ _ _ _ _ _ _ _ _ _ _ | show LCg.CompEnd _ _ _ _ _ _ _ _ _ _ _ _ _ _ | show wpAny _ _ (pyIter _) _ _ _ | show wpAny _ _ (subscriptTail _ _ (Value.str _ _) _) _ _ _ | show wpAny _ _ (call (Value.builtin "str.join") _ _) _ _ _ | show wpAny _ _ (call (Value.ref _) _ _) _ _ _ | show wpAny _ _ (exec (Stmt.While _ _ _ _) _) _ _ _ | show wpAny _ _ (binaryOp Operator.LShift _ _) _ _ _ | show wpAny _ _ (binaryOp Operator.Mult _ _) _ _ _ | show wpAny _ _ (binaryOp Operator.Pow _ _) _ _ _ | show wpAny _ _ (eval (Expr.ListComp _ _ _ _) _) _ _ _ | show wpAny _ _ (exec (Stmt.Assign _ (Expr.ListComp _ _ _ _) _) _) _ _ _ | show wpAny _ _ (call (Value.type "set") _ _) _ _ _ | show wpAny _ _ (eval (Expr.Set _ _ _) _) _ _ _ | show wpAny _ _ (getMethod (Value.ref _) _ _) _ _ _ | show wpAny _ _ (call (Value.builtin "set.add") _ _) _ _ _ | show wpAny _ _ (call (Value.builtin "set.pop") _ _) _ _ _ | show wpAny _ _ (compareOp CmpOp.In _ (Value.ref _)) _ _ _ | show wpAny _ _ (truthy (Value.ref _)) _ _ _ | show wpAny _ _ (call (Value.builtin "sorted") _ _) _ _ _ | show OneIn _ _ _ _ _ _ _ _ | show wpAny _ _ (exec (Stmt.For _ _ _ _ _) _) _ _ _ | show LoopD _ _ _ _ _ _ _ _ _ _ _ | show FdEnd _ _ _ _ _ _ _ _ _ _ _ _ | show FdPost _ _ _ _ _ _ _ _ _ _ _ _ _ _ | show wpAny _ _ (call (Value.builtin "iter") _ _) _ _ _ | show wpAny _ _ (call (Value.builtin "next") _ _) _ _ _ | show wpAny _ _ (setItem (Value.ref _) _ _) _ _ _ | show wpAny _ _ (subscriptTail _ _ (Value.ref _) _) _ _ _ | show wpAny _ _ (inplaceOp Operator.Mult _ _) _ _ _ | show wpAny _ _ (eval (Expr.Dict _ _ _) _) _ _ _))); first | (k_end; wrow_close) | walk1 | (dsimp only; walk1) | (leave1; walk_say "STEP leave1"; try dsimp only) | fail "no step")))
            have hb5 := bits_five (n / 2).toNat
            refine PyProof.Rows.mul_int ?_ (mul_ok (by (first | lia | omega)))
            rw [five_sq hnb.1]
            (repeat' (first | (k_unfold; (try dsimp only)) | ((fail_if_success (with_reducible (first | show InvEndN _ _ _ _ _ _ _ | show KswEnd _ _ _ _ _ _ _ _ _ _ _ _ | show WdEnd _ _ _ _ _ _ _ _ _ _ _ | show SrcStep _ _ _ _ _ _ _ _ _ _ _ _ _ _ | show LCg.CompEnd _ _ _ _ _ _ _ _ _ _ _ _ _ _ | show wpAny _ _ (pyIter _) _ _ _ | show wpAny _ _ (subscriptTail _ _ (Value.str _ _) _) _ _ _ | show wpAny _ _ (call (Value.builtin "str.join") _ _) _ _ _ | show wpAny _ _ (call (Value.ref _) _ _) _ _ _ | show wpAny _ _ (exec (Stmt.While _ _ _ _) _) _ _ _ | show wpAny _ _ (binaryOp Operator.LShift _ _) _ _ _ | show wpAny _ _ (binaryOp Operator.Mult _ _) _ _ _ | show wpAny _ _ (binaryOp Operator.Pow _ _) _ _ _ | show wpAny _ _ (eval (Expr.ListComp _ _ _ _) _) _ _ _ | show wpAny _ _ (exec (Stmt.Assign _ (Expr.ListComp _ _ _ _) _) _) _ _ _ | show wpAny _ _ (call (Value.type "set") _ _) _ _ _ | show wpAny _ _ (eval (Expr.Set _ _ _) _) _ _ _ | show wpAny _ _ (getMethod (Value.ref _) _ _) _ _ _ | show wpAny _ _ (call (Value.builtin "set.add") _ _) _ _ _ | show wpAny _ _ (call (Value.builtin "set.pop") _ _) _ _ _ | show wpAny _ _ (compareOp CmpOp.In _ (Value.ref _)) _ _ _ | show wpAny _ _ (truthy (Value.ref _)) _ _ _ | show wpAny _ _ (call (Value.builtin "sorted") _ _) _ _ _ | show OneIn _ _ _ _ _ _ _ _ | show wpAny _ _ (exec (Stmt.For _ _ _ _ _) _) _ _ _ | show LoopD _ _ _ _ _ _ _ _ _ _ _ | show FdEnd _ _ _ _ _ _ _ _ _ _ _ _ | show FdPost _ _ _ _ _ _ _ _ _ _ _ _ _ _ | show wpAny _ _ (call (Value.builtin "iter") _ _) _ _ _ | show wpAny _ _ (call (Value.builtin "next") _ _) _ _ _ | show wpAny _ _ (setItem (Value.ref _) _ _) _ _ _ | show wpAny _ _ (subscriptTail _ _ (Value.ref _) _) _ _ _ | show wpAny _ _ (inplaceOp Operator.Mult _ _) _ _ _ | show wpAny _ _ (eval (Expr.Dict _ _ _) _) _ _ _))); first | (k_end; wrow_close) | walk1 | (dsimp only; walk1) | (leave1; walk_say "STEP leave1"; try dsimp only) | fail "no step")))
            · rename (n - n.fdiv (2 ^ Int.toNat 1) = n.fdiv (2 ^ Int.toNat 1) + 1) => hodd
              rw [half_fdiv] at hodd
              refine PyProof.Rows.imul_int ?_ (IntMulOk.of_right (by decide))
              rw [five_odd (k := n) (by (first | lia | omega)) (by (first | lia | omega))]
              (repeat' (first | (k_unfold; (try dsimp only)) | ((fail_if_success (with_reducible (first | show InvEndN _ _ _ _ _ _ _ | show KswEnd _ _ _ _ _ _ _ _ _ _ _ _ | show WdEnd _ _ _ _ _ _ _ _ _ _ _ | show SrcStep _ _ _ _ _ _ _ _ _ _ _ _ _ _ | show LCg.CompEnd _ _ _ _ _ _ _ _ _ _ _ _ _ _ | show wpAny _ _ (pyIter _) _ _ _ | show wpAny _ _ (subscriptTail _ _ (Value.str _ _) _) _ _ _ | show wpAny _ _ (call (Value.builtin "str.join") _ _) _ _ _ | show wpAny _ _ (call (Value.ref _) _ _) _ _ _ | show wpAny _ _ (exec (Stmt.While _ _ _ _) _) _ _ _ | show wpAny _ _ (binaryOp Operator.LShift _ _) _ _ _ | show wpAny _ _ (binaryOp Operator.Mult _ _) _ _ _ | show wpAny _ _ (binaryOp Operator.Pow _ _) _ _ _ | show wpAny _ _ (eval (Expr.ListComp _ _ _ _) _) _ _ _ | show wpAny _ _ (exec (Stmt.Assign _ (Expr.ListComp _ _ _ _) _) _) _ _ _ | show wpAny _ _ (call (Value.type "set") _ _) _ _ _ | show wpAny _ _ (eval (Expr.Set _ _ _) _) _ _ _ | show wpAny _ _ (getMethod (Value.ref _) _ _) _ _ _ | show wpAny _ _ (call (Value.builtin "set.add") _ _) _ _ _ | show wpAny _ _ (call (Value.builtin "set.pop") _ _) _ _ _ | show wpAny _ _ (compareOp CmpOp.In _ (Value.ref _)) _ _ _ | show wpAny _ _ (truthy (Value.ref _)) _ _ _ | show wpAny _ _ (call (Value.builtin "sorted") _ _) _ _ _ | show OneIn _ _ _ _ _ _ _ _ | show wpAny _ _ (exec (Stmt.For _ _ _ _ _) _) _ _ _ | show LoopD _ _ _ _ _ _ _ _ _ _ _ | show FdEnd _ _ _ _ _ _ _ _ _ _ _ _ | show FdPost _ _ _ _ _ _ _ _ _ _ _ _ _ _ | show wpAny _ _ (call (Value.builtin "iter") _ _) _ _ _ | show wpAny _ _ (call (Value.builtin "next") _ _) _ _ _ | show wpAny _ _ (setItem (Value.ref _) _ _) _ _ _ | show wpAny _ _ (subscriptTail _ _ (Value.ref _) _) _ _ _ | show wpAny _ _ (inplaceOp Operator.Mult _ _) _ _ _ | show wpAny _ _ (eval (Expr.Dict _ _ _) _) _ _ _))); first | (k_end; wrow_close) | walk1 | (dsimp only; walk1) | (leave1; walk_say "STEP leave1"; try dsimp only) | fail "no step")))
              rename News _ _ _ _ => NW
              refine kda_set (knd := intKind _ _) (k := n) (by assumption) NW hUp hDc (intKind_is _ _ _ _) hszc ?_
              intro hS2 oS2 FS NS hos
              dsimp only at FS NS ⊢
              rw [(hPc.store (t := _) hnin hnb.1).1] at hos
              (repeat' (first | (k_unfold; (try dsimp only)) | ((fail_if_success (with_reducible (first | show InvEndN _ _ _ _ _ _ _ | show KswEnd _ _ _ _ _ _ _ _ _ _ _ _ | show WdEnd _ _ _ _ _ _ _ _ _ _ _ | show SrcStep _ _ _ _ _ _ _ _ _ _ _ _ _ _ | show LCg.CompEnd _ _ _ _ _ _ _ _ _ _ _ _ _ _ | show wpAny _ _ (pyIter _) _ _ _ | show wpAny _ _ (subscriptTail _ _ (Value.str _ _) _) _ _ _ | show wpAny _ _ (call (Value.builtin "str.join") _ _) _ _ _ | show wpAny _ _ (call (Value.ref _) _ _) _ _ _ | show wpAny _ _ (exec (Stmt.While _ _ _ _) _) _ _ _ | show wpAny _ _ (binaryOp Operator.LShift _ _) _ _ _ | show wpAny _ _ (binaryOp Operator.Mult _ _) _ _ _ | show wpAny _ _ (binaryOp Operator.Pow _ _) _ _ _ | show wpAny _ _ (eval (Expr.ListComp _ _ _ _) _) _ _ _ | show wpAny _ _ (exec (Stmt.Assign _ (Expr.ListComp _ _ _ _) _) _) _ _ _ | show wpAny _ _ (call (Value.type "set") _ _) _ _ _ | show wpAny _ _ (eval (Expr.Set _ _ _) _) _ _ _ | show wpAny _ _ (getMethod (Value.ref _) _ _) _ _ _ | show wpAny _ _ (call (Value.builtin "set.add") _ _) _ _ _ | show wpAny _ _ (call (Value.builtin "set.pop") _ _) _ _ _ | show wpAny _ _ (compareOp CmpOp.In _ (Value.ref _)) _ _ _ | show wpAny _ _ (truthy (Value.ref _)) _ _ _ | show wpAny _ _ (call (Value.builtin "sorted") _ _) _ _ _ | show OneIn _ _ _ _ _ _ _ _ | show wpAny _ _ (exec (Stmt.For _ _ _ _ _) _) _ _ _ | show LoopD _ _ _ _ _ _ _ _ _ _ _ | show FdEnd _ _ _ _ _ _ _ _ _ _ _ _ | show FdPost _ _ _ _ _ _ _ _ _ _ _ _ _ _ | show wpAny _ _ (call (Value.builtin "iter") _ _) _ _ _ | show wpAny _ _ (call (Value.builtin "next") _ _) _ _ _ | show wpAny _ _ (setItem (Value.ref _) _ _) _ _ _ | show wpAny _ _ (subscriptTail _ _ (Value.ref _) _) _ _ _ | show wpAny _ _ (inplaceOp Operator.Mult _ _) _ _ _ | show wpAny _ _ (eval (Expr.Dict _ _ _) _) _ _ _))); first | (k_end; wrow_close) | walk1 | (dsimp only; walk1) | (leave1; walk_say "STEP leave1"; try dsimp only) | fail "no step")))
              refine fd_next ?_
              refine fd_end (oS2, _) (by assumption) NS (fun p hp => List.mem_append_left _ hp) (fun p hp => List.mem_append_right _ hp) (List.forall_mem_nil _) ?_ ⟨hos, ?_⟩
              · intro z hz _ h3
                simp only [List.contains_cons, List.contains_nil, Bool.or_false, Bool.or_eq_false_iff, beq_eq_false_iff_ne, ne_eq] at h3
                simp [h3, hz, kstB]
              · rw [htake]
                exact (hPc.store hnin hnb.1).2
            · exfalso; simp only [half_fdiv] at *; (first | lia | omega)
            · rename (n - n.fdiv (2 ^ Int.toNat 1) = n.fdiv (2 ^ Int.toNat 1)) => heven
              rw [half_fdiv] at heven
              rw [show 2 * (n / 2) = n from by (first | lia | omega)]
              rename News _ _ _ _ => NW
              refine kda_set (knd := intKind _ _) (k := n) (by assumption) NW hUp hDc (intKind_is _ _ _ _) hszc ?_
              intro hS2 oS2 FS NS hos
              dsimp only at FS NS ⊢
              rw [(hPc.store (t := _) hnin hnb.1).1] at hos
              (repeat' (first | (k_unfold; (try dsimp only)) | ((fail_if_success (with_reducible (first | show InvEndN _ _ _ _ _ _ _ | show KswEnd _ _ _ _ _ _ _ _ _ _ _ _ | show WdEnd _ _ _ _ _ _ _ _ _ _ _ | show SrcStep _ _ _ _ _ _ _ _ _ _ _ _ _ _ | show LCg.CompEnd _ _ _ _ _ _ _ _ _ _ _ _ _ _ | show wpAny _ _ (pyIter _) _ _ _ | show wpAny _ _ (subscriptTail _ _ (Value.str _ _) _) _ _ _ | show wpAny _ _ (call (Value.builtin "str.join") _ _) _ _ _ | show wpAny _ _ (call (Value.ref _) _ _) _ _ _ | show wpAny _ _ (exec (Stmt.While _ _ _ _) _) _ _ _ | show wpAny _ _ (binaryOp Operator.LShift _ _) _ _ _ | show wpAny _ _ (binaryOp Operator.Mult _ _) _ _ _ | show wpAny _ _ (binaryOp Operator.Pow _ _) _ _ _ | show wpAny _ _ (eval (Expr.ListComp _ _ _ _) _) _ _ _ | show wpAny _ _ (exec (Stmt.Assign _ (Expr.ListComp _ _ _ _) _) _) _ _ _ | show wpAny _ _ (call (Value.type "set") _ _) _ _ _ | show wpAny _ _ (eval (Expr.Set _ _ _) _) _ _ _ | show wpAny _ _ (getMethod (Value.ref _) _ _) _ _ _ | show wpAny _ _ (call (Value.builtin "set.add") _ _) _ _ _ | show wpAny _ _ (call (Value.builtin "set.pop") _ _) _ _ _ | show wpAny _ _ (compareOp CmpOp.In _ (Value.ref _)) _ _ _ | show wpAny _ _ (truthy (Value.ref _)) _ _ _ | show wpAny _ _ (call (Value.builtin "sorted") _ _) _ _ _ | show OneIn _ _ _ _ _ _ _ _ | show wpAny _ _ (exec (Stmt.For _ _ _ _ _) _) _ _ _ | show LoopD _ _ _ _ _ _ _ _ _ _ _ | show FdEnd _ _ _ _ _ _ _ _ _ _ _ _ | show FdPost _ _ _ _ _ _ _ _ _ _ _ _ _ _ | show wpAny _ _ (call (Value.builtin "iter") _ _) _ _ _ | show wpAny _ _ (call (Value.builtin "next") _ _) _ _ _ | show wpAny _ _ (setItem (Value.ref _) _ _) _ _ _ | show wpAny _ _ (subscriptTail _ _ (Value.ref _) _) _ _ _ | show wpAny _ _ (inplaceOp Operator.Mult _ _) _ _ _ | show wpAny _ _ (eval (Expr.Dict _ _ _) _) _ _ _))); first | (k_end; wrow_close) | walk1 | (dsimp only; walk1) | (leave1; walk_say "STEP leave1"; try dsimp only) | fail "no step")))
              refine fd_next ?_
              refine fd_end (oS2, _) (by assumption) NS (fun p hp => List.mem_append_left _ hp) (fun p hp => List.mem_append_right _ hp) (List.forall_mem_nil _) ?_ ⟨hos, ?_⟩
              · intro z hz _ h3
                simp only [List.contains_cons, List.contains_nil, Bool.or_false, Bool.or_eq_false_iff, beq_eq_false_iff_ne, ne_eq] at h3
                simp [h3, hz, kstB]
              · rw [htake]
                exact (hPc.store hnin hnb.1).2
      · rintro c u h tk dr ⟨hDc, hPc⟩ FE NE
        (repeat' (first | (k_unfold; (try dsimp only)) | ((fail_if_success (with_reducible (first | show InvEndN _ _ _ _ _ _ _ | show KswEnd _ _ _ _ _ _ _ _ _ _ _ _ | show WdEnd _ _ _ _ _ _ _ _ _ _ _ | show SrcStep _ _ _ _ _ _ _ _ _ _ _ _ _ _ | show LCg.CompEnd _ _ _ _ _ _ _ _ _ _ _ _ _ _ | show wpAny _ _ (pyIter _) _ _ _ | show wpAny _ _ (subscriptTail _ _ (Value.str _ _) _) _ _ _ | show wpAny _ _ (call (Value.builtin "str.join") _ _) _ _ _ | show wpAny _ _ (call (Value.ref _) _ _) _ _ _ | show wpAny _ _ (exec (Stmt.While _ _ _ _) _) _ _ _ | show wpAny _ _ (binaryOp Operator.LShift _ _) _ _ _ | show wpAny _ _ (binaryOp Operator.Mult _ _) _ _ _ | show wpAny _ _ (binaryOp Operator.Pow _ _) _ _ _ | show wpAny _ _ (eval (Expr.ListComp _ _ _ _) _) _ _ _ | show wpAny _ _ (exec (Stmt.Assign _ (Expr.ListComp _ _ _ _) _) _) _ _ _ | show wpAny _ _ (call (Value.type "set") _ _) _ _ _ | show wpAny _ _ (eval (Expr.Set _ _ _) _) _ _ _ | show wpAny _ _ (getMethod (Value.ref _) _ _) _ _ _ | show wpAny _ _ (call (Value.builtin "set.add") _ _) _ _ _ | show wpAny _ _ (call (Value.builtin "set.pop") _ _) _ _ _ | show wpAny _ _ (compareOp CmpOp.In _ (Value.ref _)) _ _ _ | show wpAny _ _ (truthy (Value.ref _)) _ _ _ | show wpAny _ _ (call (Value.builtin "sorted") _ _) _ _ _ | show OneIn _ _ _ _ _ _ _ _ | show wpAny _ _ (exec (Stmt.For _ _ _ _ _) _) _ _ _ | show LoopD _ _ _ _ _ _ _ _ _ _ _ | show FdEnd _ _ _ _ _ _ _ _ _ _ _ _ | show FdPost _ _ _ _ _ _ _ _ _ _ _ _ _ _ | show wpAny _ _ (call (Value.builtin "iter") _ _) _ _ _ | show wpAny _ _ (call (Value.builtin "next") _ _) _ _ _ | show wpAny _ _ (setItem (Value.ref _) _ _) _ _ _ | show wpAny _ _ (subscriptTail _ _ (Value.ref _) _) _ _ _ | show wpAny _ _ (inplaceOp Operator.Mult _ _) _ _ _ | show wpAny _ _ (eval (Expr.Dict _ _ _) _) _ _ _))); first | (k_end; wrow_close) | walk1 | (dsimp only; walk1) | (leave1; walk_say "STEP leave1"; try dsimp only) | fail "no step")))
        have hfull : ns.take (vs.toArray.size - 1 + 1) = ns := by
          apply List.take_of_length_le
          have := hI.length
          rw [List.size_toArray]
          (first | lia | omega)
        rw [hfull] at hPc
        refine hret dA c.1 c.2 ns _ _ _ (by assumption) (by assumption) (fun p hp => lA p (.tail _ (.tail _ (.tail _ hp)))) hmod hDc hPc (.inr ⟨hTW, hcs⟩)
  | cons w0 lw0 =>
    rw [if_pos (show (!(w0 :: lw0).isEmpty) = true from rfl)]
    (repeat' (first | (k_unfold; (try dsimp only)) | ((fail_if_success (with_reducible (first | show InvEndN _ _ _ _ _ _ _ | show KswEnd _ _ _ _ _ _ _ _ _ _ _ _ | show WdEnd _ _ _ _ _ _ _ _ _ _ _ | show SrcStep _ _ _ _ _ _ _ _ _ _ _ _ _ _ | show LCg.CompEnd _ _ _ _ _ _ _ _ _ _ _ _ _ _ | show wpAny _ _ (pyIter _) _ _ _ | show wpAny _ _ (subscriptTail _ _ (Value.str _ _) _) _ _ _ | show wpAny _ _ (call (Value.builtin "str.join") _ _) _ _ _ | show wpAny _ _ (call (Value.ref _) _ _) _ _ _ | show wpAny _ _ (exec (Stmt.While _ _ _ _) _) _ _ _ | show wpAny _ _ (binaryOp Operator.LShift _ _) _ _ _ | show wpAny _ _ (binaryOp Operator.Mult _ _) _ _ _ | show wpAny _ _ (binaryOp Operator.Pow _ _) _ _ _ | show wpAny _ _ (eval (Expr.ListComp _ _ _ _) _) _ _ _ | show wpAny _ _ (exec (Stmt.Assign _ (Expr.ListComp _ _ _ _) _) _) _ _ _ | show wpAny _ _ (call (Value.type "set") _ _) _ _ _ | show wpAny _ _ (eval (Expr.Set _ _ _) _) _ _ _ | show wpAny _ _ (getMethod (Value.ref _) _ _) _ _ _ | show wpAny _ _ (call (Value.builtin "set.add") _ _) _ _ _ | show wpAny _ _ (call (Value.builtin "set.pop") _ _) _ _ _ | show wpAny _ _ (compareOp CmpOp.In _ (Value.ref _)) _ _ _ | show wpAny _ _ (truthy (Value.ref _)) _ _ _ | show wpAny _ _ (call (Value.builtin "sorted") _ _) _ _ _ | show OneIn _ _ _ _ _ _ _ _ | show wpAny _ _ (exec (Stmt.For _ _ _ _ _) _) _ _ _ | show LoopD _ _ _ _ _ _ _ _ _ _ _ | show FdEnd _ _ _ _ _ _ _ _ _ _ _ _ | show FdPost _ _ _ _ _ _ _ _ _ _ _ _ _ _ | show wpAny _ _ (call (Value.builtin "iter") _ _) _ _ _ | show wpAny _ _ (call (Value.builtin "next") _ _) _ _ _ | show wpAny _ _ (setItem (Value.ref _) _ _) _ _ _ | show wpAny _ _ (subscriptTail _ _ (Value.ref _) _) _ _ _ | show wpAny _ _ (inplaceOp Operator.Mult _ _) _ _ _ | show wpAny _ _ (eval (Expr.Dict _ _ _) _) _ _ _))); first | (k_end; wrow_close) | walk1 | (dsimp only; walk1) | (leave1; walk_say "STEP leave1"; try dsimp only) | fail "no step")))
    refine set_pop_method N5 D3.ux hW ?_
    (repeat' (first | (k_unfold; (try dsimp only)) | ((fail_if_success (with_reducible (first | show InvEndN _ _ _ _ _ _ _ | show KswEnd _ _ _ _ _ _ _ _ _ _ _ _ | show WdEnd _ _ _ _ _ _ _ _ _ _ _ | show SrcStep _ _ _ _ _ _ _ _ _ _ _ _ _ _ | show LCg.CompEnd _ _ _ _ _ _ _ _ _ _ _ _ _ _ | show wpAny _ _ (pyIter _) _ _ _ | show wpAny _ _ (subscriptTail _ _ (Value.str _ _) _) _ _ _ | show wpAny _ _ (call (Value.builtin "str.join") _ _) _ _ _ | show wpAny _ _ (call (Value.ref _) _ _) _ _ _ | show wpAny _ _ (exec (Stmt.While _ _ _ _) _) _ _ _ | show wpAny _ _ (binaryOp Operator.LShift _ _) _ _ _ | show wpAny _ _ (binaryOp Operator.Mult _ _) _ _ _ | show wpAny _ _ (binaryOp Operator.Pow _ _) _ _ _ | show wpAny _ _ (eval (Expr.ListComp _ _ _ _) _) _ _ _ | show wpAny _ _ (exec (Stmt.Assign _ (Expr.ListComp _ _ _ _) _) _) _ _ _ | show wpAny _ _ (call (Value.type "set") _ _) _ _ _ | show wpAny _ _ (eval (Expr.Set _ _ _) _) _ _ _ | show wpAny _ _ (getMethod (Value.ref _) _ _) _ _ _ | show wpAny _ _ (call (Value.builtin "set.add") _ _) _ _ _ | show wpAny _ _ (call (Value.builtin "set.pop") _ _) _ _ _ | show wpAny _ _ (compareOp CmpOp.In _ (Value.ref _)) _ _ _ | show wpAny _ _ (truthy (Value.ref _)) _ _ _ | show wpAny _ _ (call (Value.builtin "sorted") _ _) _ _ _ | show OneIn _ _ _ _ _ _ _ _ | show wpAny _ _ (exec (Stmt.For _ _ _ _ _) _) _ _ _ | show LoopD _ _ _ _ _ _ _ _ _ _ _ | show FdEnd _ _ _ _ _ _ _ _ _ _ _ _ | show FdPost _ _ _ _ _ _ _ _ _ _ _ _ _ _ | show wpAny _ _ (call (Value.builtin "iter") _ _) _ _ _ | show wpAny _ _ (call (Value.builtin "next") _ _) _ _ _ | show wpAny _ _ (setItem (Value.ref _) _ _) _ _ _ | show wpAny _ _ (subscriptTail _ _ (Value.ref _) _) _ _ _ | show wpAny _ _ (inplaceOp Operator.Mult _ _) _ _ _ | show wpAny _ _ (eval (Expr.Dict _ _ _) _) _ _ _))); first | (k_end; wrow_close) | walk1 | (dsimp only; walk1) | (leave1; walk_say "STEP leave1"; try dsimp only) | fail "no step")))
    refine set_pop F5 N5 D3.ux hW (by (first | lia | omega)) (by simp) ?_
    intro x tx h6 oW' lw' dr' F6 N6 hW' hx hxw hlen
    dsimp only at F6 N6 ⊢
    (repeat' (first | (k_unfold; (try dsimp only)) | ((fail_if_success (with_reducible (first | show InvEndN _ _ _ _ _ _ _ | show KswEnd _ _ _ _ _ _ _ _ _ _ _ _ | show WdEnd _ _ _ _ _ _ _ _ _ _ _ | show SrcStep _ _ _ _ _ _ _ _ _ _ _ _ _ _ | show LCg.CompEnd _ _ _ _ _ _ _ _ _ _ _ _ _ _ | show wpAny _ _ (pyIter _) _ _ _ | show wpAny _ _ (subscriptTail _ _ (Value.str _ _) _) _ _ _ | show wpAny _ _ (call (Value.builtin "str.join") _ _) _ _ _ | show wpAny _ _ (call (Value.ref _) _ _) _ _ _ | show wpAny _ _ (exec (Stmt.While _ _ _ _) _) _ _ _ | show wpAny _ _ (binaryOp Operator.LShift _ _) _ _ _ | show wpAny _ _ (binaryOp Operator.Mult _ _) _ _ _ | show wpAny _ _ (binaryOp Operator.Pow _ _) _ _ _ | show wpAny _ _ (eval (Expr.ListComp _ _ _ _) _) _ _ _ | show wpAny _ _ (exec (Stmt.Assign _ (Expr.ListComp _ _ _ _) _) _) _ _ _ | show wpAny _ _ (call (Value.type "set") _ _) _ _ _ | show wpAny _ _ (eval (Expr.Set _ _ _) _) _ _ _ | show wpAny _ _ (getMethod (Value.ref _) _ _) _ _ _ | show wpAny _ _ (call (Value.builtin "set.add") _ _) _ _ _ | show wpAny _ _ (call (Value.builtin "set.pop") _ _) _ _ _ | show wpAny _ _ (compareOp CmpOp.In _ (Value.ref _)) _ _ _ | show wpAny _ _ (truthy (Value.ref _)) _ _ _ | show wpAny _ _ (call (Value.builtin "sorted") _ _) _ _ _ | show OneIn _ _ _ _ _ _ _ _ | show wpAny _ _ (exec (Stmt.For _ _ _ _ _) _) _ _ _ | show LoopD _ _ _ _ _ _ _ _ _ _ _ | show FdEnd _ _ _ _ _ _ _ _ _ _ _ _ | show FdPost _ _ _ _ _ _ _ _ _ _ _ _ _ _ | show wpAny _ _ (call (Value.builtin "iter") _ _) _ _ _ | show wpAny _ _ (call (Value.builtin "next") _ _) _ _ _ | show wpAny _ _ (setItem (Value.ref _) _ _) _ _ _ | show wpAny _ _ (subscriptTail _ _ (Value.ref _) _) _ _ _ | show wpAny _ _ (inplaceOp Operator.Mult _ _) _ _ _ | show wpAny _ _ (eval (Expr.Dict _ _ _) _) _ _ _))); first | (k_end; wrow_close) | walk1 | (dsimp only; walk1) | (leave1; walk_say "STEP leave1"; try dsimp only) | fail "no step")))
    refine set_in (by assumption) D3.uz hSn (by (first | lia | omega)) ?_
    (repeat' (first | (k_unfold; (try dsimp only)) | ((fail_if_success (with_reducible (first | show InvEndN _ _ _ _ _ _ _ | show KswEnd _ _ _ _ _ _ _ _ _ _ _ _ | show WdEnd _ _ _ _ _ _ _ _ _ _ _ | show SrcStep _ _ _ _ _ _ _ _ _ _ _ _ _ _ | show LCg.CompEnd _ _ _ _ _ _ _ _ _ _ _ _ _ _ | show wpAny _ _ (pyIter _) _ _ _ | show wpAny _ _ (subscriptTail _ _ (Value.str _ _) _) _ _ _ | show wpAny _ _ (call (Value.builtin "str.join") _ _) _ _ _ | show wpAny _ _ (call (Value.ref _) _ _) _ _ _ | show wpAny _ _ (exec (Stmt.While _ _ _ _) _) _ _ _ | show wpAny _ _ (binaryOp Operator.LShift _ _) _ _ _ | show wpAny _ _ (binaryOp Operator.Mult _ _) _ _ _ | show wpAny _ _ (binaryOp Operator.Pow _ _) _ _ _ | show wpAny _ _ (eval (Expr.ListComp _ _ _ _) _) _ _ _ | show wpAny _ _ (exec (Stmt.Assign _ (Expr.ListComp _ _ _ _) _) _) _ _ _ | show wpAny _ _ (call (Value.type "set") _ _) _ _ _ | show wpAny _ _ (eval (Expr.Set _ _ _) _) _ _ _ | show wpAny _ _ (getMethod (Value.ref _) _ _) _ _ _ | show wpAny _ _ (call (Value.builtin "set.add") _ _) _ _ _ | show wpAny _ _ (call (Value.builtin "set.pop") _ _) _ _ _ | show wpAny _ _ (compareOp CmpOp.In _ (Value.ref _)) _ _ _ | show wpAny _ _ (truthy (Value.ref _)) _ _ _ | show wpAny _ _ (call (Value.builtin "sorted") _ _) _ _ _ | show OneIn _ _ _ _ _ _ _ _ | show wpAny _ _ (exec (Stmt.For _ _ _ _ _) _) _ _ _ | show LoopD _ _ _ _ _ _ _ _ _ _ _ | show FdEnd _ _ _ _ _ _ _ _ _ _ _ _ | show FdPost _ _ _ _ _ _ _ _ _ _ _ _ _ _ | show wpAny _ _ (call (Value.builtin "iter") _ _) _ _ _ | show wpAny _ _ (call (Value.builtin "next") _ _) _ _ _ | show wpAny _ _ (setItem (Value.ref _) _ _) _ _ _ | show wpAny _ _ (subscriptTail _ _ (Value.ref _) _) _ _ _ | show wpAny _ _ (inplaceOp Operator.Mult _ _) _ _ _ | show wpAny _ _ (eval (Expr.Dict _ _ _) _) _ _ _))); first | (k_end; wrow_close) | walk1 | (dsimp only; walk1) | (leave1; walk_say "STEP leave1"; try dsimp only) | fail "no step")))
    · show WdEnd _ _ _ _ _ _ _ _ _ _ _
      refine wd_end (c' := ((oW', lw'), (oN, ln), (oS, ls))) (by assumption) (by assumption) (fun _ hp => hp) (List.forall_mem_nil _) ?_ ⟨hW', hN, hSn, pinv_skip hP hx hxw (.inl (by assumption))⟩ (by dsimp only; (first | lia | omega))
      intro z _ h3
      simp only [List.contains_cons, List.contains_nil, Bool.or_false, Bool.or_eq_false_iff, beq_eq_false_iff_ne, ne_eq] at h3
      simp [h3, kstB]
    · show WdEnd _ _ _ _ _ _ _ _ _ _ _
      refine wd_end (c' := ((oW', lw'), (oN, ln), (oS, ls))) (by assumption) (by assumption) (fun _ hp => hp) (List.forall_mem_nil _) ?_ ⟨hW', hN, hSn, pinv_skip hP hx hxw (.inr (by assumption))⟩ (by dsimp only; (first | lia | omega))
      intro z _ h3
      simp only [List.contains_cons, List.contains_nil, Bool.or_false, Bool.or_eq_false_iff, beq_eq_false_iff_ne, ne_eq] at h3
      simp [h3, kstB]
    · rename_i hns hnm
      have b4 : lw'.length ≤ 7 := by simp only [List.length_cons] at hlen b1; (first | lia | omega)
      refine set_add_method (by assumption) D3.uz hSn (by (first | lia | omega)) ?_
      (repeat' (first | (k_unfold; (try dsimp only)) | ((fail_if_success (with_reducible (first | show InvEndN _ _ _ _ _ _ _ | show KswEnd _ _ _ _ _ _ _ _ _ _ _ _ | show WdEnd _ _ _ _ _ _ _ _ _ _ _ | show SrcStep _ _ _ _ _ _ _ _ _ _ _ _ _ _ | show LCg.CompEnd _ _ _ _ _ _ _ _ _ _ _ _ _ _ | show wpAny _ _ (pyIter _) _ _ _ | show wpAny _ _ (subscriptTail _ _ (Value.str _ _) _) _ _ _ | show wpAny _ _ (call (Value.builtin "str.join") _ _) _ _ _ | show wpAny _ _ (call (Value.ref _) _ _) _ _ _ | show wpAny _ _ (exec (Stmt.While _ _ _ _) _) _ _ _ | show wpAny _ _ (binaryOp Operator.LShift _ _) _ _ _ | show wpAny _ _ (binaryOp Operator.Mult _ _) _ _ _ | show wpAny _ _ (binaryOp Operator.Pow _ _) _ _ _ | show wpAny _ _ (eval (Expr.ListComp _ _ _ _) _) _ _ _ | show wpAny _ _ (exec (Stmt.Assign _ (Expr.ListComp _ _ _ _) _) _) _ _ _ | show wpAny _ _ (call (Value.type "set") _ _) _ _ _ | show wpAny _ _ (eval (Expr.Set _ _ _) _) _ _ _ | show wpAny _ _ (getMethod (Value.ref _) _ _) _ _ _ | show wpAny _ _ (call (Value.builtin "set.add") _ _) _ _ _ | show wpAny _ _ (call (Value.builtin "set.pop") _ _) _ _ _ | show wpAny _ _ (compareOp CmpOp.In _ (Value.ref _)) _ _ _ | show wpAny _ _ (truthy (Value.ref _)) _ _ _ | show wpAny _ _ (call (Value.builtin "sorted") _ _) _ _ _ | show OneIn _ _ _ _ _ _ _ _ | show wpAny _ _ (exec (Stmt.For _ _ _ _ _) _) _ _ _ | show LoopD _ _ _ _ _ _ _ _ _ _ _ | show FdEnd _ _ _ _ _ _ _ _ _ _ _ _ | show FdPost _ _ _ _ _ _ _ _ _ _ _ _ _ _ | show wpAny _ _ (call (Value.builtin "iter") _ _) _ _ _ | show wpAny _ _ (call (Value.builtin "next") _ _) _ _ _ | show wpAny _ _ (setItem (Value.ref _) _ _) _ _ _ | show wpAny _ _ (subscriptTail _ _ (Value.ref _) _) _ _ _ | show wpAny _ _ (inplaceOp Operator.Mult _ _) _ _ _ | show wpAny _ _ (eval (Expr.Dict _ _ _) _) _ _ _))); first | (k_end; wrow_close) | walk1 | (dsimp only; walk1) | (leave1; walk_say "STEP leave1"; try dsimp only) | fail "no step")))
      refine set_add (by assumption) (by assumption) D3.uz hSn (by (first | lia | omega)) (fun _ _ _ => trivial) ?_
      intro h7 oS' ls' F7 N7 hS' hsm hsl hsl2
      dsimp only at F7 N7 ⊢
      (repeat' (first | (k_unfold; (try dsimp only)) | ((fail_if_success (with_reducible (first | show InvEndN _ _ _ _ _ _ _ | show KswEnd _ _ _ _ _ _ _ _ _ _ _ _ | show WdEnd _ _ _ _ _ _ _ _ _ _ _ | show SrcStep _ _ _ _ _ _ _ _ _ _ _ _ _ _ | show LCg.CompEnd _ _ _ _ _ _ _ _ _ _ _ _ _ _ | show wpAny _ _ (pyIter _) _ _ _ | show wpAny _ _ (subscriptTail _ _ (Value.str _ _) _) _ _ _ | show wpAny _ _ (call (Value.builtin "str.join") _ _) _ _ _ | show wpAny _ _ (call (Value.ref _) _ _) _ _ _ | show wpAny _ _ (exec (Stmt.While _ _ _ _) _) _ _ _ | show wpAny _ _ (binaryOp Operator.LShift _ _) _ _ _ | show wpAny _ _ (binaryOp Operator.Mult _ _) _ _ _ | show wpAny _ _ (binaryOp Operator.Pow _ _) _ _ _ | show wpAny _ _ (eval (Expr.ListComp _ _ _ _) _) _ _ _ | show wpAny _ _ (exec (Stmt.Assign _ (Expr.ListComp _ _ _ _) _) _) _ _ _ | show wpAny _ _ (call (Value.type "set") _ _) _ _ _ | show wpAny _ _ (eval (Expr.Set _ _ _) _) _ _ _ | show wpAny _ _ (getMethod (Value.ref _) _ _) _ _ _ | show wpAny _ _ (call (Value.builtin "set.add") _ _) _ _ _ | show wpAny _ _ (call (Value.builtin "set.pop") _ _) _ _ _ | show wpAny _ _ (compareOp CmpOp.In _ (Value.ref _)) _ _ _ | show wpAny _ _ (truthy (Value.ref _)) _ _ _ | show wpAny _ _ (call (Value.builtin "sorted") _ _) _ _ _ | show OneIn _ _ _ _ _ _ _ _ | show wpAny _ _ (exec (Stmt.For _ _ _ _ _) _) _ _ _ | show LoopD _ _ _ _ _ _ _ _ _ _ _ | show FdEnd _ _ _ _ _ _ _ _ _ _ _ _ | show FdPost _ _ _ _ _ _ _ _ _ _ _ _ _ _ | show wpAny _ _ (call (Value.builtin "iter") _ _) _ _ _ | show wpAny _ _ (call (Value.builtin "next") _ _) _ _ _ | show wpAny _ _ (setItem (Value.ref _) _ _) _ _ _ | show wpAny _ _ (subscriptTail _ _ (Value.ref _) _) _ _ _ | show wpAny _ _ (inplaceOp Operator.Mult _ _) _ _ _ | show wpAny _ _ (eval (Expr.Dict _ _ _) _) _ _ _))); first | (k_end; wrow_close) | walk1 | (dsimp only; walk1) | (leave1; walk_say "STEP leave1"; try dsimp only) | fail "no step")))
      refine set_add_method (by assumption) D3.uy hN (by (first | lia | omega)) ?_
      (repeat' (first | (k_unfold; (try dsimp only)) | ((fail_if_success (with_reducible (first | show InvEndN _ _ _ _ _ _ _ | show KswEnd _ _ _ _ _ _ _ _ _ _ _ _ | show WdEnd _ _ _ _ _ _ _ _ _ _ _ | show SrcStep _ _ _ _ _ _ _ _ _ _ _ _ _ _ | show LCg.CompEnd _ _ _ _ _ _ _ _ _ _ _ _ _ _ | show wpAny _ _ (pyIter _) _ _ _ | show wpAny _ _ (subscriptTail _ _ (Value.str _ _) _) _ _ _ | show wpAny _ _ (call (Value.builtin "str.join") _ _) _ _ _ | show wpAny _ _ (call (Value.ref _) _ _) _ _ _ | show wpAny _ _ (exec (Stmt.While _ _ _ _) _) _ _ _ | show wpAny _ _ (binaryOp Operator.LShift _ _) _ _ _ | show wpAny _ _ (binaryOp Operator.Mult _ _) _ _ _ | show wpAny _ _ (binaryOp Operator.Pow _ _) _ _ _ | show wpAny _ _ (eval (Expr.ListComp _ _ _ _) _) _ _ _ | show wpAny _ _ (exec (Stmt.Assign _ (Expr.ListComp _ _ _ _) _) _) _ _ _ | show wpAny _ _ (call (Value.type "set") _ _) _ _ _ | show wpAny _ _ (eval (Expr.Set _ _ _) _) _ _ _ | show wpAny _ _ (getMethod (Value.ref _) _ _) _ _ _ | show wpAny _ _ (call (Value.builtin "set.add") _ _) _ _ _ | show wpAny _ _ (call (Value.builtin "set.pop") _ _) _ _ _ | show wpAny _ _ (compareOp CmpOp.In _ (Value.ref _)) _ _ _ | show wpAny _ _ (truthy (Value.ref _)) _ _ _ | show wpAny _ _ (call (Value.builtin "sorted") _ _) _ _ _ | show OneIn _ _ _ _ _ _ _ _ | show wpAny _ _ (exec (Stmt.For _ _ _ _ _) _) _ _ _ | show LoopD _ _ _ _ _ _ _ _ _ _ _ | show FdEnd _ _ _ _ _ _ _ _ _ _ _ _ | show FdPost _ _ _ _ _ _ _ _ _ _ _ _ _ _ | show wpAny _ _ (call (Value.builtin "iter") _ _) _ _ _ | show wpAny _ _ (call (Value.builtin "next") _ _) _ _ _ | show wpAny _ _ (setItem (Value.ref _) _ _) _ _ _ | show wpAny _ _ (subscriptTail _ _ (Value.ref _) _) _ _ _ | show wpAny _ _ (inplaceOp Operator.Mult _ _) _ _ _ | show wpAny _ _ (eval (Expr.Dict _ _ _) _) _ _ _))); first | (k_end; wrow_close) | walk1 | (dsimp only; walk1) | (leave1; walk_say "STEP leave1"; try dsimp only) | fail "no step")))
      refine set_add (by assumption) (by assumption) D3.uy hN (by (first | lia | omega)) (fun t ht hf => RN_add ht (by simpa using hf) (by simpa using b2)) ?_
      intro h8 oN' ln' F8 N8 hN' hnm' hnl hnl2
      dsimp only at F8 N8 ⊢
      (repeat' (first | (k_unfold; (try dsimp only)) | ((fail_if_success (with_reducible (first | show InvEndN _ _ _ _ _ _ _ | show KswEnd _ _ _ _ _ _ _ _ _ _ _ _ | show WdEnd _ _ _ _ _ _ _ _ _ _ _ | show SrcStep _ _ _ _ _ _ _ _ _ _ _ _ _ _ | show LCg.CompEnd _ _ _ _ _ _ _ _ _ _ _ _ _ _ | show wpAny _ _ (pyIter _) _ _ _ | show wpAny _ _ (subscriptTail _ _ (Value.str _ _) _) _ _ _ | show wpAny _ _ (call (Value.builtin "str.join") _ _) _ _ _ | show wpAny _ _ (call (Value.ref _) _ _) _ _ _ | show wpAny _ _ (exec (Stmt.While _ _ _ _) _) _ _ _ | show wpAny _ _ (binaryOp Operator.LShift _ _) _ _ _ | show wpAny _ _ (binaryOp Operator.Mult _ _) _ _ _ | show wpAny _ _ (binaryOp Operator.Pow _ _) _ _ _ | show wpAny _ _ (eval (Expr.ListComp _ _ _ _) _) _ _ _ | show wpAny _ _ (exec (Stmt.Assign _ (Expr.ListComp _ _ _ _) _) _) _ _ _ | show wpAny _ _ (call (Value.type "set") _ _) _ _ _ | show wpAny _ _ (eval (Expr.Set _ _ _) _) _ _ _ | show wpAny _ _ (getMethod (Value.ref _) _ _) _ _ _ | show wpAny _ _ (call (Value.builtin "set.add") _ _) _ _ _ | show wpAny _ _ (call (Value.builtin "set.pop") _ _) _ _ _ | show wpAny _ _ (compareOp CmpOp.In _ (Value.ref _)) _ _ _ | show wpAny _ _ (truthy (Value.ref _)) _ _ _ | show wpAny _ _ (call (Value.builtin "sorted") _ _) _ _ _ | show OneIn _ _ _ _ _ _ _ _ | show wpAny _ _ (exec (Stmt.For _ _ _ _ _) _) _ _ _ | show LoopD _ _ _ _ _ _ _ _ _ _ _ | show FdEnd _ _ _ _ _ _ _ _ _ _ _ _ | show FdPost _ _ _ _ _ _ _ _ _ _ _ _ _ _ | show wpAny _ _ (call (Value.builtin "iter") _ _) _ _ _ | show wpAny _ _ (call (Value.builtin "next") _ _) _ _ _ | show wpAny _ _ (setItem (Value.ref _) _ _) _ _ _ | show wpAny _ _ (subscriptTail _ _ (Value.ref _) _) _ _ _ | show wpAny _ _ (inplaceOp Operator.Mult _ _) _ _ _ | show wpAny _ _ (eval (Expr.Dict _ _ _) _) _ _ _))); first | (k_end; wrow_close) | walk1 | (dsimp only; walk1) | (leave1; walk_say "STEP leave1"; try dsimp only) | fail "no step")))
      refine set_add_method (by assumption) D3.ux hW' (by (first | lia | omega)) ?_
      (repeat' (first | (k_unfold; (try dsimp only)) | ((fail_if_success (with_reducible (first | show InvEndN _ _ _ _ _ _ _ | show KswEnd _ _ _ _ _ _ _ _ _ _ _ _ | show WdEnd _ _ _ _ _ _ _ _ _ _ _ | show SrcStep _ _ _ _ _ _ _ _ _ _ _ _ _ _ | show LCg.CompEnd _ _ _ _ _ _ _ _ _ _ _ _ _ _ | show wpAny _ _ (pyIter _) _ _ _ | show wpAny _ _ (subscriptTail _ _ (Value.str _ _) _) _ _ _ | show wpAny _ _ (call (Value.builtin "str.join") _ _) _ _ _ | show wpAny _ _ (call (Value.ref _) _ _) _ _ _ | show wpAny _ _ (exec (Stmt.While _ _ _ _) _) _ _ _ | show wpAny _ _ (binaryOp Operator.LShift _ _) _ _ _ | show wpAny _ _ (binaryOp Operator.Mult _ _) _ _ _ | show wpAny _ _ (binaryOp Operator.Pow _ _) _ _ _ | show wpAny _ _ (eval (Expr.ListComp _ _ _ _) _) _ _ _ | show wpAny _ _ (exec (Stmt.Assign _ (Expr.ListComp _ _ _ _) _) _) _ _ _ | show wpAny _ _ (call (Value.type "set") _ _) _ _ _ | show wpAny _ _ (eval (Expr.Set _ _ _) _) _ _ _ | show wpAny _ _ (getMethod (Value.ref _) _ _) _ _ _ | show wpAny _ _ (call (Value.builtin "set.add") _ _) _ _ _ | show wpAny _ _ (call (Value.builtin "set.pop") _ _) _ _ _ | show wpAny _ _ (compareOp CmpOp.In _ (Value.ref _)) _ _ _ | show wpAny _ _ (truthy (Value.ref _)) _ _ _ | show wpAny _ _ (call (Value.builtin "sorted") _ _) _ _ _ | show OneIn _ _ _ _ _ _ _ _ | show wpAny _ _ (exec (Stmt.For _ _ _ _ _) _) _ _ _ | show LoopD _ _ _ _ _ _ _ _ _ _ _ | show FdEnd _ _ _ _ _ _ _ _ _ _ _ _ | show FdPost _ _ _ _ _ _ _ _ _ _ _ _ _ _ | show wpAny _ _ (call (Value.builtin "iter") _ _) _ _ _ | show wpAny _ _ (call (Value.builtin "next") _ _) _ _ _ | show wpAny _ _ (setItem (Value.ref _) _ _) _ _ _ | show wpAny _ _ (subscriptTail _ _ (Value.ref _) _) _ _ _ | show wpAny _ _ (inplaceOp Operator.Mult _ _) _ _ _ | show wpAny _ _ (eval (Expr.Dict _ _ _) _) _ _ _))); first | (k_end; wrow_close) | walk1 | (dsimp only; walk1) | (leave1; walk_say "STEP leave1"; try dsimp only) | fail "no step")))
      refine set_add (by assumption) (by assumption) D3.ux hW' (by (first | lia | omega)) (fun _ _ _ => trivial) ?_
      intro h9 oW2 lw2 F9 N9 hW2 hwm hwl hwl2
      dsimp only at F9 N9 ⊢
      (repeat' (first | (k_unfold; (try dsimp only)) | ((fail_if_success (with_reducible (first | show InvEndN _ _ _ _ _ _ _ | show KswEnd _ _ _ _ _ _ _ _ _ _ _ _ | show WdEnd _ _ _ _ _ _ _ _ _ _ _ | show SrcStep _ _ _ _ _ _ _ _ _ _ _ _ _ _ | show LCg.CompEnd _ _ _ _ _ _ _ _ _ _ _ _ _ _ | show wpAny _ _ (pyIter _) _ _ _ | show wpAny _ _ (subscriptTail _ _ (Value.str _ _) _) _ _ _ | show wpAny _ _ (call (Value.builtin "str.join") _ _) _ _ _ | show wpAny _ _ (call (Value.ref _) _ _) _ _ _ | show wpAny _ _ (exec (Stmt.While _ _ _ _) _) _ _ _ | show wpAny _ _ (binaryOp Operator.LShift _ _) _ _ _ | show wpAny _ _ (binaryOp Operator.Mult _ _) _ _ _ | show wpAny _ _ (binaryOp Operator.Pow _ _) _ _ _ | show wpAny _ _ (eval (Expr.ListComp _ _ _ _) _) _ _ _ | show wpAny _ _ (exec (Stmt.Assign _ (Expr.ListComp _ _ _ _) _) _) _ _ _ | show wpAny _ _ (call (Value.type "set") _ _) _ _ _ | show wpAny _ _ (eval (Expr.Set _ _ _) _) _ _ _ | show wpAny _ _ (getMethod (Value.ref _) _ _) _ _ _ | show wpAny _ _ (call (Value.builtin "set.add") _ _) _ _ _ | show wpAny _ _ (call (Value.builtin "set.pop") _ _) _ _ _ | show wpAny _ _ (compareOp CmpOp.In _ (Value.ref _)) _ _ _ | show wpAny _ _ (truthy (Value.ref _)) _ _ _ | show wpAny _ _ (call (Value.builtin "sorted") _ _) _ _ _ | show OneIn _ _ _ _ _ _ _ _ | show wpAny _ _ (exec (Stmt.For _ _ _ _ _) _) _ _ _ | show LoopD _ _ _ _ _ _ _ _ _ _ _ | show FdEnd _ _ _ _ _ _ _ _ _ _ _ _ | show FdPost _ _ _ _ _ _ _ _ _ _ _ _ _ _ | show wpAny _ _ (call (Value.builtin "iter") _ _) _ _ _ | show wpAny _ _ (call (Value.builtin "next") _ _) _ _ _ | show wpAny _ _ (setItem (Value.ref _) _ _) _ _ _ | show wpAny _ _ (subscriptTail _ _ (Value.ref _) _) _ _ _ | show wpAny _ _ (inplaceOp Operator.Mult _ _) _ _ _ | show wpAny _ _ (eval (Expr.Dict _ _ _) _) _ _ _))); first | (k_end; wrow_close) | walk1 | (dsimp only; walk1) | (leave1; walk_say "STEP leave1"; try dsimp only) | fail "no step")))
      · rename_i hodd
        refine set_add_method (by assumption) D3.ux hW2 (by (first | lia | omega)) ?_
        (repeat' (first | (k_unfold; (try dsimp only)) | ((fail_if_success (with_reducible (first | show InvEndN _ _ _ _ _ _ _ | show KswEnd _ _ _ _ _ _ _ _ _ _ _ _ | show WdEnd _ _ _ _ _ _ _ _ _ _ _ | show SrcStep _ _ _ _ _ _ _ _ _ _ _ _ _ _ | show LCg.CompEnd _ _ _ _ _ _ _ _ _ _ _ _ _ _ | show wpAny _ _ (pyIter _) _ _ _ | show wpAny _ _ (subscriptTail _ _ (Value.str _ _) _) _ _ _ | show wpAny _ _ (call (Value.builtin "str.join") _ _) _ _ _ | show wpAny _ _ (call (Value.ref _) _ _) _ _ _ | show wpAny _ _ (exec (Stmt.While _ _ _ _) _) _ _ _ | show wpAny _ _ (binaryOp Operator.LShift _ _) _ _ _ | show wpAny _ _ (binaryOp Operator.Mult _ _) _ _ _ | show wpAny _ _ (binaryOp Operator.Pow _ _) _ _ _ | show wpAny _ _ (eval (Expr.ListComp _ _ _ _) _) _ _ _ | show wpAny _ _ (exec (Stmt.Assign _ (Expr.ListComp _ _ _ _) _) _) _ _ _ | show wpAny _ _ (call (Value.type "set") _ _) _ _ _ | show wpAny _ _ (eval (Expr.Set _ _ _) _) _ _ _ | show wpAny _ _ (getMethod (Value.ref _) _ _) _ _ _ | show wpAny _ _ (call (Value.builtin "set.add") _ _) _ _ _ | show wpAny _ _ (call (Value.builtin "set.pop") _ _) _ _ _ | show wpAny _ _ (compareOp CmpOp.In _ (Value.ref _)) _ _ _ | show wpAny _ _ (truthy (Value.ref _)) _ _ _ | show wpAny _ _ (call (Value.builtin "sorted") _ _) _ _ _ | show OneIn _ _ _ _ _ _ _ _ | show wpAny _ _ (exec (Stmt.For _ _ _ _ _) _) _ _ _ | show LoopD _ _ _ _ _ _ _ _ _ _ _ | show FdEnd _ _ _ _ _ _ _ _ _ _ _ _ | show FdPost _ _ _ _ _ _ _ _ _ _ _ _ _ _ | show wpAny _ _ (call (Value.builtin "iter") _ _) _ _ _ | show wpAny _ _ (call (Value.builtin "next") _ _) _ _ _ | show wpAny _ _ (setItem (Value.ref _) _ _) _ _ _ | show wpAny _ _ (subscriptTail _ _ (Value.ref _) _) _ _ _ | show wpAny _ _ (inplaceOp Operator.Mult _ _) _ _ _ | show wpAny _ _ (eval (Expr.Dict _ _ _) _) _ _ _))); first | (k_end; wrow_close) | walk1 | (dsimp only; walk1) | (leave1; walk_say "STEP leave1"; try dsimp only) | fail "no step")))
        refine set_add (by assumption) (by assumption) D3.ux hW2 (by (first | lia | omega)) (fun _ _ _ => trivial) ?_
        intro h10 oW3 lw3 F10 N10 hW3 hwm3 hwl3 hwl32
        dsimp only at F10 N10 ⊢
        (repeat' (first | (k_unfold; (try dsimp only)) | ((fail_if_success (with_reducible (first | show InvEndN _ _ _ _ _ _ _ | show KswEnd _ _ _ _ _ _ _ _ _ _ _ _ | show WdEnd _ _ _ _ _ _ _ _ _ _ _ | show SrcStep _ _ _ _ _ _ _ _ _ _ _ _ _ _ | show LCg.CompEnd _ _ _ _ _ _ _ _ _ _ _ _ _ _ | show wpAny _ _ (pyIter _) _ _ _ | show wpAny _ _ (subscriptTail _ _ (Value.str _ _) _) _ _ _ | show wpAny _ _ (call (Value.builtin "str.join") _ _) _ _ _ | show wpAny _ _ (call (Value.ref _) _ _) _ _ _ | show wpAny _ _ (exec (Stmt.While _ _ _ _) _) _ _ _ | show wpAny _ _ (binaryOp Operator.LShift _ _) _ _ _ | show wpAny _ _ (binaryOp Operator.Mult _ _) _ _ _ | show wpAny _ _ (binaryOp Operator.Pow _ _) _ _ _ | show wpAny _ _ (eval (Expr.ListComp _ _ _ _) _) _ _ _ | show wpAny _ _ (exec (Stmt.Assign _ (Expr.ListComp _ _ _ _) _) _) _ _ _ | show wpAny _ _ (call (Value.type "set") _ _) _ _ _ | show wpAny _ _ (eval (Expr.Set _ _ _) _) _ _ _ | show wpAny _ _ (getMethod (Value.ref _) _ _) _ _ _ | show wpAny _ _ (call (Value.builtin "set.add") _ _) _ _ _ | show wpAny _ _ (call (Value.builtin "set.pop") _ _) _ _ _ | show wpAny _ _ (compareOp CmpOp.In _ (Value.ref _)) _ _ _ | show wpAny _ _ (truthy (Value.ref _)) _ _ _ | show wpAny _ _ (call (Value.builtin "sorted") _ _) _ _ _ | show OneIn _ _ _ _ _ _ _ _ | show wpAny _ _ (exec (Stmt.For _ _ _ _ _) _) _ _ _ | show LoopD _ _ _ _ _ _ _ _ _ _ _ | show FdEnd _ _ _ _ _ _ _ _ _ _ _ _ | show FdPost _ _ _ _ _ _ _ _ _ _ _ _ _ _ | show wpAny _ _ (call (Value.builtin "iter") _ _) _ _ _ | show wpAny _ _ (call (Value.builtin "next") _ _) _ _ _ | show wpAny _ _ (setItem (Value.ref _) _ _) _ _ _ | show wpAny _ _ (subscriptTail _ _ (Value.ref _) _) _ _ _ | show wpAny _ _ (inplaceOp Operator.Mult _ _) _ _ _ | show wpAny _ _ (eval (Expr.Dict _ _ _) _) _ _ _))); first | (k_end; wrow_close) | walk1 | (dsimp only; walk1) | (leave1; walk_say "STEP leave1"; try dsimp only) | fail "no step")))
        show WdEnd _ _ _ _ _ _ _ _ _ _ _
        rw [bitAnd_m1] at hodd
        simp only [half_fdiv] at hwm hwm3 hnm'
        have hP' := pinv_take hS hP hx (by (first | lia | omega)) hsm hnm' (ws' := lw3.map (·.1)) (fun y => by
          rw [hwm3, hwm, hxw]
          have ho : x % 2 = 1 := by (first | lia | omega)
          constructor
          · rintro ((q | q) | q)
            · exact .inl q
            · exact .inr (.inl q)
            · exact .inr (.inr ⟨ho, q⟩)
          · rintro (q | q | ⟨_, q⟩)
            · exact .inl (.inl q)
            · exact .inl (.inr q)
            · exact .inr q)
        have b5 := pinv_seen3 hP' hS'.nd
        rw [List.length_map] at b5
        refine wd_end (c' := ((oW3, lw3), (oN', ln'), (oS', ls'))) (by assumption) (by assumption) (fun _ hp => hp) (List.forall_mem_nil _) ?_ ⟨hW3, hN', hS', hP'⟩ ?_
        · intro z _ h3
          simp only [List.contains_cons, List.contains_nil, Bool.or_false, Bool.or_eq_false_iff, beq_eq_false_iff_ne, ne_eq] at h3
          simp [h3, kstB]
        · have b6 := hsl2 hns
          simp only [List.length_cons] at hlen
          dsimp only [List.length_cons]
          (first | lia | omega)
      · rename_i heven
        show WdEnd _ _ _ _ _ _ _ _ _ _ _
        rw [bitAnd_m1] at heven
        simp only [half_fdiv] at hwm hnm'
        have hP' := pinv_take hS hP hx (by (first | lia | omega)) hsm hnm' (ws' := lw2.map (·.1)) (fun y => by
          rw [hwm, hxw]
          constructor
          · rintro (q | q)
            · exact .inl q
            · exact .inr (.inl q)
          · rintro (q | q | ⟨ho, q⟩)
            · exact .inl q
            · exact .inr q
            · (first | lia | omega))
        have b5 := pinv_seen3 hP' hS'.nd
        rw [List.length_map] at b5
        refine wd_end (c' := ((oW2, lw2), (oN', ln'), (oS', ls'))) (by assumption) (by assumption) (fun _ hp => hp) (List.forall_mem_nil _) ?_ ⟨hW2, hN', hS', hP'⟩ ?_
        · intro z _ h3
          simp only [List.contains_cons, List.contains_nil, Bool.or_false, Bool.or_eq_false_iff, beq_eq_false_iff_ne, ne_eq] at h3
          simp [h3, kstB]
        · have b6 := hsl2 hns
          simp only [List.length_cons] at hlen
          dsimp only [List.length_cons]
          (first | lia | omega)
end
end Mine
end
section
theorem Mine.reset_C5 : True := by
  w_top off
  exact trivial
open PySem PySem.W PySem.NumText PyProof.Rows
set_option maxRecDepth 100000
set_option linter.unusedVariables false
namespace Mine
theorem fill_5 (w : World) (h : Heap) : Frag.In (Mine.Head.hd.heap_39 w.params) h → Challenge.rw_lo0013_01.row.prog = Challenge.rw_lo0013_01.row.prog := by
  k_fill
  intros; rfl
section
variable {w : World} {p : Program} {loose : List Str} {mean : ExcName → Option Value} {mg mb : Str → Option Value} {dp un : Nat} {gd : Option (List Code)} {cn : Str} {cs : Scope} {a : Addr} {ccd : Value} {cl : List (Str × Addr)} {outer : List Env} {A₀ : Around} {base h₀ : Heap} {L : Addr} {m : Str → Option Value} {news : List (Addr × Obj)} {s : Shared} {Q E : Value → Shared → Prop}

local macro_rules | `(tactic| walk_at "eval Name") => `(tactic| (k_dflt (refine' nameX_F ?N ?c ?m ?d ?_ ?a ?b; (case a => rfl); (case b => rfl); (case N => k_asm); (case c => rfl); (case m => assumption); (case d => assumption); k_whole)))
/-- the def that stands in _str_to_int_inner -/
noncomputable def innerOf : Arguments × List Stmt × Scope := match Challenge.rw_lo0013_01.row.prog.main.body with
  | _ :: _ :: .FunctionDef _ _ (_ :: .FunctionDef _ p b _ _ _ sc _ _ _ :: _) _ _ _ _ _ _ _ :: _ => (p, b, sc)
  | _ => default
/-- what inner closes over -/
structure InnerAt (news : List (Addr × Obj)) (f cD cI cS cW c' : Addr) (x : PySem.Str) (D : Addr) : Prop where
  dig : ∃ o t, (cD, o) ∈ news ∧ o.data = .cell (some (.int 2048 t))
  self : ∃ o, (cI, o) ∈ news ∧ o.data = .cell (some (.ref f))
  text : ∃ o t, (cS, o) ∈ news ∧ o.data = .cell (some (.str x t))
  pow : ∃ o, (cW, o) ∈ news ∧ o.data = .cell (some (.ref D))
noncomputable def innerCells (cD cI cS cW : Addr) : List (PySem.Str × Addr) := [(PySem.Str.ofString "w5pow", cW), (PySem.Str.ofString "s", cS), (PySem.Str.ofString "inner", cI), (PySem.Str.ofString "DIGLIM", cD)]

set_option maxHeartbeats 8000000 in
theorem c_inner0 {params : Arguments} {body : List Stmt} {scope : Scope} (hdef : innerOf = (params, body, scope)) {f cD cI cS cW c' D : Addr} {x : PySem.Str} {doc pm ctv : Value} {oc : Obj} {vs : Array Value} {tq : Tok}
    {qual : PySem.Str}
    (hf : (f, fnMade (PySem.Str.ofString "inner") qual params body scope (innerCells cD cI cS cW) doc pm c' ctv) ∈ news)
    (hc : (c', oc) ∈ news) (hcd : oc.data = .fields vs) (hcv : vs[1]? = some (.str qual tq)) (I : InnerAt news f cD cI cS cW c' x D)
    {i j : Nat} {ti tj : Tok} (hij : i < j) (hj : j ≤ x.length) (hx : x.length ≤ sizeLine) (hs : j - i ≤ 2048) (hdig : AllDigits ((x.cps.toList.drop i).take (j - i)))
    (B : Below A₀ base outer h₀) (F : Fr h₀ L s.heap m) (X : Frag.In (Mine.Head.hd.heap_39 w.params) h₀) (N : News h₀ L s.heap news) (T : Top p loose mean mg mb h₀) (hk : cs.kind = .function) (hd : dp + 3 < recursionLimit) (hu : un + 20 < cLine)
    (hret : ∀ h' tk' t', Fr h₀ L h' m → News h₀ L h' news → Q (.int (digitsVal ((x.cps.toList.drop i).take (j - i)) : Nat) t') { s with heap := h', toks := tk' }) :
    wpAny (model Challenge.rw_lo0013_01.row.prog w) (ktrTop dp un gd cn cs L a ccd cl outer) (call (.ref f) [.int i ti, .int j tj]) Q E s := by
  have e : innerOf = (_, [_, _, _], _) := rfl
  rw [e] at hdef
  cases hdef
  refine wpAny_call ?_
  have hrec : s.heap.CodeRec (.ref c') qual := codeRec_news N hc hcd hcv
  refine code_nest B F X N T rfl rfl hk hf hrec (by ktr_room) (BindsTo.of_eq rfl) (locs rfl) ?_ rfl rfl rfl (by decide)
  intro g' L' h' FG' F' N' B' X' T'
  dsimp only
  obtain ⟨⟨oD, tD, mD, dD⟩, ⟨oI, mI, dI⟩, ⟨oS, tS, mS, dS⟩, ⟨oW, mW, dW⟩⟩ := I
  (repeat' (first | (k_unfold; (try dsimp only)) | ((fail_if_success (with_reducible (first | show InvEndN _ _ _ _ _ _ _ | show KswEnd _ _ _ _ _ _ _ _ _ _ _ _ | show WdEnd _ _ _ _ _ _ _ _ _ _ _ | show SrcStep _ _ _ _ _ _ _ _ _ _ _ _ _ _ | show LCg.CompEnd _ _ _ _ _ _ _ _ _ _ _ _ _ _ | show wpAny _ _ (pyIter _) _ _ _ | show wpAny _ _ (call (Value.builtin "str.join") _ _) _ _ _ | show wpAny _ _ (call (Value.ref _) _ _) _ _ _ | show wpAny _ _ (exec (Stmt.While _ _ _ _) _) _ _ _ | show wpAny _ _ (binaryOp Operator.LShift _ _) _ _ _ | show wpAny _ _ (binaryOp Operator.Mult _ _) _ _ _ | show wpAny _ _ (binaryOp Operator.Pow _ _) _ _ _ | show wpAny _ _ (eval (Expr.ListComp _ _ _ _) _) _ _ _ | show wpAny _ _ (exec (Stmt.Assign _ (Expr.ListComp _ _ _ _) _) _) _ _ _ | show wpAny _ _ (call (Value.type "int") _ _) _ _ _ | show wpAny _ _ (subscriptTail _ _ (Value.ref _) _) _ _ _))); first | (k_end; wrow_close) | walk1 | (dsimp only; walk1) | (leave1; walk_say "STEP leave1"; try dsimp only) | fail "no step")))
  rename Fr g' _ _ _ => F2
  have hsl := slice_in (x := x) (Nat.le_of_lt hij) hj
  have hll : (Txt.slice x (some (i : Int)) (some (j : Int))).cps.toList.length = j - i := by
    rw [hsl, List.length_take, List.length_drop]
    have : x.cps.toList.length = x.length := Array.length_toList
    (first | lia | omega)
  refine call_int_figs (T'.nodigits.elim fun mc q => ⟨mc, q.1.keeps F2.keep, q.2⟩) (by rw [hsl]; exact hdig) (by intro q; rw [q] at hll; simp at hll; (first | lia | omega)) (by show Array.size _ ≤ 4300; rw [← Array.length_toList, hll]; (first | lia | omega)) ?_
  rw [hsl]
  (repeat' (first | (k_unfold; (try dsimp only)) | ((fail_if_success (with_reducible (first | show InvEndN _ _ _ _ _ _ _ | show KswEnd _ _ _ _ _ _ _ _ _ _ _ _ | show WdEnd _ _ _ _ _ _ _ _ _ _ _ | show SrcStep _ _ _ _ _ _ _ _ _ _ _ _ _ _ | show LCg.CompEnd _ _ _ _ _ _ _ _ _ _ _ _ _ _ | show wpAny _ _ (pyIter _) _ _ _ | show wpAny _ _ (call (Value.builtin "str.join") _ _) _ _ _ | show wpAny _ _ (call (Value.ref _) _ _) _ _ _ | show wpAny _ _ (exec (Stmt.While _ _ _ _) _) _ _ _ | show wpAny _ _ (binaryOp Operator.LShift _ _) _ _ _ | show wpAny _ _ (binaryOp Operator.Mult _ _) _ _ _ | show wpAny _ _ (binaryOp Operator.Pow _ _) _ _ _ | show wpAny _ _ (eval (Expr.ListComp _ _ _ _) _) _ _ _ | show wpAny _ _ (exec (Stmt.Assign _ (Expr.ListComp _ _ _ _) _) _) _ _ _ | show wpAny _ _ (call (Value.type "int") _ _) _ _ _ | show wpAny _ _ (subscriptTail _ _ (Value.ref _) _) _ _ _))); first | (k_end; wrow_close) | walk1 | (dsimp only; walk1) | (leave1; walk_say "STEP leave1"; try dsimp only) | fail "no step")))
  exact hret _ _ _ (by assumption) (by assumption)

theorem mid_is (i j : Nat) : ((i : Int) + j + 1).fdiv (2 ^ Int.toNat 1) = (((i + j + 1) / 2 : Nat) : Int) := by
  rw [half_fdiv]; (first | lia | omega)
theorem ten_pow (k : Nat) : (10 : Nat) ^ k = 5 ^ k * 2 ^ k := by rw [← Nat.mul_pow]
theorem val_split {cs : List Nat} {i k j : Nat} (hik : i ≤ k) (hkj : k ≤ j) (hj : j ≤ cs.length) :
    digitsVal ((cs.drop i).take (j - i)) = digitsVal ((cs.drop k).take (j - k)) + digitsVal ((cs.drop i).take (k - i)) * 5 ^ (j - k) * 2 ^ (j - k) := by
  have e : (cs.drop i).take (j - i) = (cs.drop i).take (k - i) ++ (cs.drop k).take (j - k) := by
    have h1 : j - i = (k - i) + (j - k) := by (first | lia | omega)
    rw [h1, List.take_add, List.drop_drop]
    congr 3
    (first | lia | omega)
  rw [e, val_append, List.length_take, List.length_drop, Nat.min_eq_left (by (first | lia | omega)), ten_pow, Nat.mul_assoc, Nat.add_comm]

theorem val_lt : ∀ {cs : List Nat}, AllDigits cs → digitsVal cs < 10 ^ cs.length
  | [], _ => by decide
  | c :: cs, h => by
    have ih := val_lt h.tail
    have hc := h.head
    have e := val_append [c] cs
    rw [List.singleton_append] at e
    rw [e, List.length_cons, Nat.pow_succ]
    have e1 : digitsVal [c] = c - 48 := by show 0 * 10 + (c - 48) = c - 48; (first | lia | omega)
    rw [e1]
    have h9 : c - 48 ≤ 9 := by (first | lia | omega)
    have := Nat.mul_le_mul_right (10 ^ cs.length) h9
    (first | lia | omega)
theorem bits_val {cs : List Nat} (h : AllDigits cs) : Builtin.Int.intBits ((digitsVal cs : Nat) : Int) ≤ 4 * cs.length := by
  refine intBits_le ?_
  rw [Int.natAbs_natCast, ← pow16]
  exact Nat.lt_of_lt_of_le (val_lt h) (Nat.pow_le_pow_left (by decide) _)
theorem digits_part {cs : List Nat} {i j a b : Nat} (h : AllDigits ((cs.drop i).take (j - i))) (h1 : i ≤ a) (h2 : b ≤ j) : AllDigits ((cs.drop a).take (b - a)) := by
  intro c hc
  refine h c ?_
  obtain ⟨n, hn⟩ := List.getElem?_of_mem hc
  rw [List.getElem?_take] at hn
  split at hn
  · rename_i hlt
    rw [List.getElem?_drop] at hn
    refine List.mem_of_getElem? (i := a - i + n) ?_
    rw [List.getElem?_take, if_pos (by (first | lia | omega)), List.getElem?_drop, show i + (a - i + n) = a + n from by (first | lia | omega)]
    exact hn
  · cases hn

set_option maxHeartbeats 8000000 in
theorem c_inner1 {params : Arguments} {body : List Stmt} {scope : Scope} (hdef : innerOf = (params, body, scope)) {f cD cI cS cW c' D : Addr} {x : PySem.Str} {doc pm ctv : Value} {oc od : Obj} {vs : Array Value} {tq : Tok}
    {qual : PySem.Str} {kvs : List (Int × Value)} {ns : List Int}
    (hf : (f, fnMade (PySem.Str.ofString "inner") qual params body scope (innerCells cD cI cS cW) doc pm c' ctv) ∈ news)
    (hc : (c', oc) ∈ news) (hcd : oc.data = .fields vs) (hcv : vs[1]? = some (.str qual tq)) (I : InnerAt news f cD cI cS cW c' x D)
    (hD : (D, od) ∈ news) (hod : od.IsDictOf (intKind Challenge.rw_lo0013_01.row.prog w) kvs) (hP : PowL kvs ns)
    {i j : Nat} {ti tj : Tok} (hij : i < j) (hj : j ≤ x.length) (hx : x.length ≤ sizeLine) (hs : j - i ≤ 4096) (hns : 2048 < j - i → ((j - (i + j + 1) / 2 : Nat) : Int) ∈ ns) (hdig : AllDigits ((x.cps.toList.drop i).take (j - i)))
    (B : Below A₀ base outer h₀) (F : Fr h₀ L s.heap m) (X : Frag.In (Mine.Head.hd.heap_39 w.params) h₀) (N : News h₀ L s.heap news) (T : Top p loose mean mg mb h₀) (hk : cs.kind = .function) (hd : dp + 5 < recursionLimit) (hu : un + 30 < cLine)
    (hret : ∀ h' tk' t', Fr h₀ L h' m → News h₀ L h' news → Q (.int (digitsVal ((x.cps.toList.drop i).take (j - i)) : Nat) t') { s with heap := h', toks := tk' }) :
    wpAny (model Challenge.rw_lo0013_01.row.prog w) (ktrTop dp un gd cn cs L a ccd cl outer) (call (.ref f) [.int i ti, .int j tj]) Q E s := by
  by_cases hlong : j - i ≤ 2048
  · exact c_inner0 hdef hf hc hcd hcv I hij hj hx hlong hdig B F X N T hk (by (first | lia | omega)) (by (first | lia | omega)) hret
  have hdef' := hdef
  have e : innerOf = (_, [_, _, _], _) := rfl
  rw [e] at hdef
  cases hdef
  refine wpAny_call ?_
  have hrec : s.heap.CodeRec (.ref c') qual := codeRec_news N hc hcd hcv
  refine code_nest B F X N T rfl rfl hk hf hrec (by ktr_room) (BindsTo.of_eq rfl) (locs rfl) ?_ rfl rfl rfl (by decide)
  intro g' L' h' FG' F' N' B' X' T'
  dsimp only
  have I' := I
  obtain ⟨⟨oD, tD, mD, dD⟩, ⟨oI, mI, dI⟩, ⟨oS, tS, mS, dS⟩, ⟨oW, mW, dW⟩⟩ := I
  have hxl : x.cps.toList.length = x.length := Array.length_toList
  generalize hmd : (i + j + 1) / 2 = k at hns
  have hmid : ((i : Int) + j + 1).fdiv (2 ^ Int.toNat 1) = (k : Int) := by rw [mid_is, hmd]
  have hik : i < k := by (first | lia | omega)
  have hkj : k < j := by (first | lia | omega)
  (repeat' (first | (k_unfold; (try dsimp only)) | ((fail_if_success (with_reducible (first | show InvEndN _ _ _ _ _ _ _ | show KswEnd _ _ _ _ _ _ _ _ _ _ _ _ | show WdEnd _ _ _ _ _ _ _ _ _ _ _ | show SrcStep _ _ _ _ _ _ _ _ _ _ _ _ _ _ | show LCg.CompEnd _ _ _ _ _ _ _ _ _ _ _ _ _ _ | show wpAny _ _ (pyIter _) _ _ _ | show wpAny _ _ (call (Value.builtin "str.join") _ _) _ _ _ | show wpAny _ _ (call (Value.ref _) _ _) _ _ _ | show wpAny _ _ (exec (Stmt.While _ _ _ _) _) _ _ _ | show wpAny _ _ (binaryOp Operator.LShift _ _) _ _ _ | show wpAny _ _ (binaryOp Operator.Mult _ _) _ _ _ | show wpAny _ _ (binaryOp Operator.Pow _ _) _ _ _ | show wpAny _ _ (eval (Expr.ListComp _ _ _ _) _) _ _ _ | show wpAny _ _ (exec (Stmt.Assign _ (Expr.ListComp _ _ _ _) _) _) _ _ _ | show wpAny _ _ (call (Value.type "int") _ _) _ _ _ | show wpAny _ _ (subscriptTail _ _ (Value.ref _) _) _ _ _))); first | (k_end; wrow_close) | walk1 | (dsimp only; walk1) | (leave1; walk_say "STEP leave1"; try dsimp only) | fail "no step")))
  rename News g' _ _ _ => N1
  refine callWith_F (FnAt.of N1 hf) ?_
  (repeat' (first | (k_unfold; (try dsimp only)) | ((fail_if_success (with_reducible (first | show InvEndN _ _ _ _ _ _ _ | show KswEnd _ _ _ _ _ _ _ _ _ _ _ _ | show WdEnd _ _ _ _ _ _ _ _ _ _ _ | show SrcStep _ _ _ _ _ _ _ _ _ _ _ _ _ _ | show LCg.CompEnd _ _ _ _ _ _ _ _ _ _ _ _ _ _ | show wpAny _ _ (pyIter _) _ _ _ | show wpAny _ _ (call (Value.builtin "str.join") _ _) _ _ _ | show wpAny _ _ (call (Value.ref _) _ _) _ _ _ | show wpAny _ _ (exec (Stmt.While _ _ _ _) _) _ _ _ | show wpAny _ _ (binaryOp Operator.LShift _ _) _ _ _ | show wpAny _ _ (binaryOp Operator.Mult _ _) _ _ _ | show wpAny _ _ (binaryOp Operator.Pow _ _) _ _ _ | show wpAny _ _ (eval (Expr.ListComp _ _ _ _) _) _ _ _ | show wpAny _ _ (exec (Stmt.Assign _ (Expr.ListComp _ _ _ _) _) _) _ _ _ | show wpAny _ _ (call (Value.type "int") _ _) _ _ _ | show wpAny _ _ (subscriptTail _ _ (Value.ref _) _) _ _ _))); first | (k_end; wrow_close) | walk1 | (dsimp only; walk1) | (leave1; walk_say "STEP leave1"; try dsimp only) | fail "no step")))
  rw [hmid]
  refine c_inner0 hdef' hf hc hcd hcv I' hkj hj hx (by (first | lia | omega)) (digits_part hdig (by (first | lia | omega)) (by (first | lia | omega))) (by assumption) (by assumption) (by assumption) (by assumption) (by assumption) rfl (by ktr_room) (by ktr_units) ?_
  intro h2 tk2 t2 F2 N2
  (repeat' (first | (k_unfold; (try dsimp only)) | ((fail_if_success (with_reducible (first | show InvEndN _ _ _ _ _ _ _ | show KswEnd _ _ _ _ _ _ _ _ _ _ _ _ | show WdEnd _ _ _ _ _ _ _ _ _ _ _ | show SrcStep _ _ _ _ _ _ _ _ _ _ _ _ _ _ | show LCg.CompEnd _ _ _ _ _ _ _ _ _ _ _ _ _ _ | show wpAny _ _ (pyIter _) _ _ _ | show wpAny _ _ (call (Value.builtin "str.join") _ _) _ _ _ | show wpAny _ _ (call (Value.ref _) _ _) _ _ _ | show wpAny _ _ (exec (Stmt.While _ _ _ _) _) _ _ _ | show wpAny _ _ (binaryOp Operator.LShift _ _) _ _ _ | show wpAny _ _ (binaryOp Operator.Mult _ _) _ _ _ | show wpAny _ _ (binaryOp Operator.Pow _ _) _ _ _ | show wpAny _ _ (eval (Expr.ListComp _ _ _ _) _) _ _ _ | show wpAny _ _ (exec (Stmt.Assign _ (Expr.ListComp _ _ _ _) _) _) _ _ _ | show wpAny _ _ (call (Value.type "int") _ _) _ _ _ | show wpAny _ _ (subscriptTail _ _ (Value.ref _) _) _ _ _))); first | (k_end; wrow_close) | walk1 | (dsimp only; walk1) | (leave1; walk_say "STEP leave1"; try dsimp only) | fail "no step")))
  refine callWith_F (FnAt.of N2 hf) ?_
  (repeat' (first | (k_unfold; (try dsimp only)) | ((fail_if_success (with_reducible (first | show InvEndN _ _ _ _ _ _ _ | show KswEnd _ _ _ _ _ _ _ _ _ _ _ _ | show WdEnd _ _ _ _ _ _ _ _ _ _ _ | show SrcStep _ _ _ _ _ _ _ _ _ _ _ _ _ _ | show LCg.CompEnd _ _ _ _ _ _ _ _ _ _ _ _ _ _ | show wpAny _ _ (pyIter _) _ _ _ | show wpAny _ _ (call (Value.builtin "str.join") _ _) _ _ _ | show wpAny _ _ (call (Value.ref _) _ _) _ _ _ | show wpAny _ _ (exec (Stmt.While _ _ _ _) _) _ _ _ | show wpAny _ _ (binaryOp Operator.LShift _ _) _ _ _ | show wpAny _ _ (binaryOp Operator.Mult _ _) _ _ _ | show wpAny _ _ (binaryOp Operator.Pow _ _) _ _ _ | show wpAny _ _ (eval (Expr.ListComp _ _ _ _) _) _ _ _ | show wpAny _ _ (exec (Stmt.Assign _ (Expr.ListComp _ _ _ _) _) _) _ _ _ | show wpAny _ _ (call (Value.type "int") _ _) _ _ _ | show wpAny _ _ (subscriptTail _ _ (Value.ref _) _) _ _ _))); first | (k_end; wrow_close) | walk1 | (dsimp only; walk1) | (leave1; walk_say "STEP leave1"; try dsimp only) | fail "no step")))
  rw [hmid]
  refine c_inner0 hdef' hf hc hcd hcv I' hik (by (first | lia | omega)) hx (by (first | lia | omega)) (digits_part hdig (by (first | lia | omega)) (by (first | lia | omega))) (by assumption) (by assumption) (by assumption) (by assumption) (by assumption) rfl (by ktr_room) (by ktr_units) ?_
  intro h3 tk3 t3 F3 N3
  (repeat' (first | (k_unfold; (try dsimp only)) | ((fail_if_success (with_reducible (first | show InvEndN _ _ _ _ _ _ _ | show KswEnd _ _ _ _ _ _ _ _ _ _ _ _ | show WdEnd _ _ _ _ _ _ _ _ _ _ _ | show SrcStep _ _ _ _ _ _ _ _ _ _ _ _ _ _ | show LCg.CompEnd _ _ _ _ _ _ _ _ _ _ _ _ _ _ | show wpAny _ _ (pyIter _) _ _ _ | show wpAny _ _ (call (Value.builtin "str.join") _ _) _ _ _ | show wpAny _ _ (call (Value.ref _) _ _) _ _ _ | show wpAny _ _ (exec (Stmt.While _ _ _ _) _) _ _ _ | show wpAny _ _ (binaryOp Operator.LShift _ _) _ _ _ | show wpAny _ _ (binaryOp Operator.Mult _ _) _ _ _ | show wpAny _ _ (binaryOp Operator.Pow _ _) _ _ _ | show wpAny _ _ (eval (Expr.ListComp _ _ _ _) _) _ _ _ | show wpAny _ _ (exec (Stmt.Assign _ (Expr.ListComp _ _ _ _) _) _) _ _ _ | show wpAny _ _ (call (Value.type "int") _ _) _ _ _ | show wpAny _ _ (subscriptTail _ _ (Value.ref _) _) _ _ _))); first | (k_end; wrow_close) | walk1 | (dsimp only; walk1) | (leave1; walk_say "STEP leave1"; try dsimp only) | fail "no step")))
  have hjk : (j : Int) - (k : Int) = ((j - k : Nat) : Int) := by (first | lia | omega)
  obtain ⟨tv, hv⟩ := hP.value (hns (by (first | lia | omega)))
  rw [hmid, hjk]
  refine kda_item (knd := intKind _ _) (k := ((j - k : Nat) : Int)) N3 hD hod (intKind_is _ _ _ _) hv ?_
  (repeat' (first | (k_unfold; (try dsimp only)) | ((fail_if_success (with_reducible (first | show InvEndN _ _ _ _ _ _ _ | show KswEnd _ _ _ _ _ _ _ _ _ _ _ _ | show WdEnd _ _ _ _ _ _ _ _ _ _ _ | show SrcStep _ _ _ _ _ _ _ _ _ _ _ _ _ _ | show LCg.CompEnd _ _ _ _ _ _ _ _ _ _ _ _ _ _ | show wpAny _ _ (pyIter _) _ _ _ | show wpAny _ _ (call (Value.builtin "str.join") _ _) _ _ _ | show wpAny _ _ (call (Value.ref _) _ _) _ _ _ | show wpAny _ _ (exec (Stmt.While _ _ _ _) _) _ _ _ | show wpAny _ _ (binaryOp Operator.LShift _ _) _ _ _ | show wpAny _ _ (binaryOp Operator.Mult _ _) _ _ _ | show wpAny _ _ (binaryOp Operator.Pow _ _) _ _ _ | show wpAny _ _ (eval (Expr.ListComp _ _ _ _) _) _ _ _ | show wpAny _ _ (exec (Stmt.Assign _ (Expr.ListComp _ _ _ _) _) _) _ _ _ | show wpAny _ _ (call (Value.type "int") _ _) _ _ _ | show wpAny _ _ (subscriptTail _ _ (Value.ref _) _) _ _ _))); first | (k_end; wrow_close) | walk1 | (dsimp only; walk1) | (leave1; walk_say "STEP leave1"; try dsimp only) | fail "no step")))
  rw [Int.toNat_natCast]
  have hb1 := bits_val (digits_part (a := i) (b := k) hdig (by (first | lia | omega)) (by (first | lia | omega)))
  have hb2 := bits_five (j - k)
  rw [List.length_take, List.length_drop] at hb1
  refine PyProof.Rows.mul_int ?_ (mul_ok (by (first | lia | omega)))
  (repeat' (first | (k_unfold; (try dsimp only)) | ((fail_if_success (with_reducible (first | show InvEndN _ _ _ _ _ _ _ | show KswEnd _ _ _ _ _ _ _ _ _ _ _ _ | show WdEnd _ _ _ _ _ _ _ _ _ _ _ | show SrcStep _ _ _ _ _ _ _ _ _ _ _ _ _ _ | show LCg.CompEnd _ _ _ _ _ _ _ _ _ _ _ _ _ _ | show wpAny _ _ (pyIter _) _ _ _ | show wpAny _ _ (call (Value.builtin "str.join") _ _) _ _ _ | show wpAny _ _ (call (Value.ref _) _ _) _ _ _ | show wpAny _ _ (exec (Stmt.While _ _ _ _) _) _ _ _ | show wpAny _ _ (binaryOp Operator.LShift _ _) _ _ _ | show wpAny _ _ (binaryOp Operator.Mult _ _) _ _ _ | show wpAny _ _ (binaryOp Operator.Pow _ _) _ _ _ | show wpAny _ _ (eval (Expr.ListComp _ _ _ _) _) _ _ _ | show wpAny _ _ (exec (Stmt.Assign _ (Expr.ListComp _ _ _ _) _) _) _ _ _ | show wpAny _ _ (call (Value.type "int") _ _) _ _ _ | show wpAny _ _ (subscriptTail _ _ (Value.ref _) _) _ _ _))); first | (k_end; wrow_close) | walk1 | (dsimp only; walk1) | (leave1; walk_say "STEP leave1"; try dsimp only) | fail "no step")))
  rw [hmid, hjk]
  have hb3 := intBits_mul_le (Nat.le_refl (Builtin.Int.intBits ((digitsVal ((x.cps.toList.drop i).take (k - i)) : Nat) : Int))) (Nat.le_refl (Builtin.Int.intBits ((5 : Int) ^ (j - k))))
  refine PyProof.Rows.lshift_int (by (first | lia | omega)) (by (first | lia | omega)) ?_
  (repeat' (first | (k_unfold; (try dsimp only)) | ((fail_if_success (with_reducible (first | show InvEndN _ _ _ _ _ _ _ | show KswEnd _ _ _ _ _ _ _ _ _ _ _ _ | show WdEnd _ _ _ _ _ _ _ _ _ _ _ | show SrcStep _ _ _ _ _ _ _ _ _ _ _ _ _ _ | show LCg.CompEnd _ _ _ _ _ _ _ _ _ _ _ _ _ _ | show wpAny _ _ (pyIter _) _ _ _ | show wpAny _ _ (call (Value.builtin "str.join") _ _) _ _ _ | show wpAny _ _ (call (Value.ref _) _ _) _ _ _ | show wpAny _ _ (exec (Stmt.While _ _ _ _) _) _ _ _ | show wpAny _ _ (binaryOp Operator.LShift _ _) _ _ _ | show wpAny _ _ (binaryOp Operator.Mult _ _) _ _ _ | show wpAny _ _ (binaryOp Operator.Pow _ _) _ _ _ | show wpAny _ _ (eval (Expr.ListComp _ _ _ _) _) _ _ _ | show wpAny _ _ (exec (Stmt.Assign _ (Expr.ListComp _ _ _ _) _) _) _ _ _ | show wpAny _ _ (call (Value.type "int") _ _) _ _ _ | show wpAny _ _ (subscriptTail _ _ (Value.ref _) _) _ _ _))); first | (k_end; wrow_close) | walk1 | (dsimp only; walk1) | (leave1; walk_say "STEP leave1"; try dsimp only) | fail "no step")))
  have hval := val_split (cs := x.cps.toList) (Nat.le_of_lt hik) (Nat.le_of_lt hkj) (by (first | lia | omega))
  have hval' : ((digitsVal ((x.cps.toList.drop i).take (j - i)) : Nat) : Int) = (digitsVal ((x.cps.toList.drop k).take (j - k)) : Nat) + (digitsVal ((x.cps.toList.drop i).take (k - i)) : Nat) * 5 ^ (j - k) * 2 ^ (j - k) := by
    rw [hval]; push_cast; rfl
  rw [Int.toNat_natCast, ← hval']
  exact hret _ _ _ (by assumption) (by assumption)

theorem reset_C9 : True := by
  w_top off
  exact trivial
theorem wpC_callP {M : Model} {A : Around} {E : Value → Shared → Prop} {s : Shared} {P : Heap → Prop} {f : Value} {pos : Pos} {env : Env} {e : Expr} {rest : List Expr} {Q : Value → Shared → Prop}
    (hk : ∀ h, P h → ∃ k, (k = Keeper.frame ∨ k = Keeper.machine ∨ k = Keeper.boundFrame) ∧ Looks M h (keeperOf f) k)
    (h : wpAny M A (spliced (backTo pos (starEach (e :: rest) env))) (fun vs s₁ => P s₁.heap ∧ wpC M A (call f ([] ++ vs)) Q E s₁) E s)
    (he : starEach (e :: rest) env = (false, eval e env) :: starEach rest env := by rfl) (hplain : (backTo pos (starEach rest env)).any (·.1) = false := by rfl) :
    wpC M A (callWith pos f [] (backTo pos (starEach (e :: rest) env)) []) Q E s := by
  rw [he] at h ⊢
  exact wpC_callWith (P := P) (by show ((false || (backTo pos (starEach rest env)).any (·.1)) || false) = false; rw [hplain]; rfl) hk (PySem.Calls.evalArgs_plain h)
set_option maxHeartbeats 8000000 in
theorem c_inner0_bad {params : Arguments} {body : List Stmt} {scope : Scope} (hdef : innerOf = (params, body, scope)) {f cD cI cS cW c' D : Addr} {x : PySem.Str} {doc pm ctv : Value} {oc : Obj} {vs : Array Value} {tq : Tok}
    {qual : PySem.Str}
    (hf : (f, fnMade (PySem.Str.ofString "inner") qual params body scope (innerCells cD cI cS cW) doc pm c' ctv) ∈ news)
    (hc : (c', oc) ∈ news) (hcd : oc.data = .fields vs) (hcv : vs[1]? = some (.str qual tq)) (I : InnerAt news f cD cI cS cW c' x D)
    {i j : Nat} {ti tj : Tok} (hij : i ≤ j) (hj : j ≤ x.length) (hx : x.length ≤ 10000) (hs : j - i ≤ 2048) (hdull : Dull ((x.cps.toList.drop i).take (j - i))) (hbad : (x.cps.toList.drop i).take (j - i) = [] ∨ ∃ c ∈ (x.cps.toList.drop i).take (j - i), Foreign c)
    (B : Below A₀ base outer h₀) (F : Fr h₀ L s.heap m) (X : Frag.In (Mine.Head.hd.heap_39 w.params) h₀) (N : News h₀ L s.heap news) (T : Top p loose mean mg mb h₀) (hk : cs.kind = .function) (hd : dp + 3 < recursionLimit) (hu : un + 20 < cLine)
    (hE : ∀ e h' tk' dr', Thrown base h₀ L m (envX cn cs L a ccd cl :: outer) news e h' → E e { s with heap := h', toks := tk', drawn := dr' }) :
    wpC (model Challenge.rw_lo0013_01.row.prog w) (ktrTop dp un gd cn cs L a ccd cl outer) (call (.ref f) [.int i ti, .int j tj]) Q E s := by
  have e : innerOf = (_, [_, _, _], _) := rfl
  rw [e] at hdef
  cases hdef
  refine wpC_call ?_
  have hrec : s.heap.CodeRec (.ref c') qual := codeRec_news N hc hcd hcv
  refine nestC B F X N T rfl rfl hk hf hrec (by ktr_room) (BindsTo.of_eq rfl) (locs rfl) ?_ rfl rfl rfl (by decide)
  intro g' L' h' FG' F' N' B' X' T'
  dsimp only
  obtain ⟨⟨oD, tD, mD, dD⟩, ⟨oI, mI, dI⟩, ⟨oS, tS, mS, dS⟩, ⟨oW, mW, dW⟩⟩ := I
  refine wpC_execs_cons (wpC_If (wpC_any ?_))
  (repeat' (first | (k_unfold; (try dsimp only)) | ((fail_if_success (with_reducible (first | show InvEndN _ _ _ _ _ _ _ | show KswEnd _ _ _ _ _ _ _ _ _ _ _ _ | show WdEnd _ _ _ _ _ _ _ _ _ _ _ | show SrcStep _ _ _ _ _ _ _ _ _ _ _ _ _ _ | show LCg.CompEnd _ _ _ _ _ _ _ _ _ _ _ _ _ _ | show wpAny _ _ (pyIter _) _ _ _ | show wpAny _ _ (call (Value.builtin "str.join") _ _) _ _ _ | show wpAny _ _ (call (Value.ref _) _ _) _ _ _ | show wpAny _ _ (exec (Stmt.While _ _ _ _) _) _ _ _ | show wpAny _ _ (binaryOp Operator.LShift _ _) _ _ _ | show wpAny _ _ (binaryOp Operator.Mult _ _) _ _ _ | show wpAny _ _ (binaryOp Operator.Pow _ _) _ _ _ | show wpAny _ _ (eval (Expr.ListComp _ _ _ _) _) _ _ _ | show wpAny _ _ (exec (Stmt.Assign _ (Expr.ListComp _ _ _ _) _) _) _ _ _ | show wpAny _ _ (call (Value.type "int") _ _) _ _ _ | show wpAny _ _ (subscriptTail _ _ (Value.ref _) _) _ _ _))); first | (k_end; wrow_close) | walk1 | (dsimp only; walk1) | (leave1; walk_say "STEP leave1"; try dsimp only) | fail "no step")))
  refine wpC_execs_cons (wpC_Return (wpC_Call ?_))
  (repeat' (first | (k_unfold; (try dsimp only)) | ((fail_if_success (with_reducible (first | show InvEndN _ _ _ _ _ _ _ | show KswEnd _ _ _ _ _ _ _ _ _ _ _ _ | show WdEnd _ _ _ _ _ _ _ _ _ _ _ | show SrcStep _ _ _ _ _ _ _ _ _ _ _ _ _ _ | show LCg.CompEnd _ _ _ _ _ _ _ _ _ _ _ _ _ _ | show wpAny _ _ (pyIter _) _ _ _ | show wpAny _ _ (call (Value.builtin "str.join") _ _) _ _ _ | show wpAny _ _ (call (Value.ref _) _ _) _ _ _ | show wpAny _ _ (exec (Stmt.While _ _ _ _) _) _ _ _ | show wpAny _ _ (binaryOp Operator.LShift _ _) _ _ _ | show wpAny _ _ (binaryOp Operator.Mult _ _) _ _ _ | show wpAny _ _ (binaryOp Operator.Pow _ _) _ _ _ | show wpAny _ _ (eval (Expr.ListComp _ _ _ _) _) _ _ _ | show wpAny _ _ (exec (Stmt.Assign _ (Expr.ListComp _ _ _ _) _) _) _ _ _ | show wpAny _ _ (call (Value.type "int") _ _) _ _ _ | show wpAny _ _ (subscriptTail _ _ (Value.ref _) _) _ _ _))); first | (k_end; wrow_close) | walk1 | (dsimp only; walk1) | (leave1; walk_say "STEP leave1"; try dsimp only) | fail "no step")))
  refine wpC_callP (P := fun _ => True) (fun _ _ => ⟨_, .inr (.inl rfl), Looks.now⟩) ?_
  (repeat' (first | (k_unfold; (try dsimp only)) | ((fail_if_success (with_reducible (first | show InvEndN _ _ _ _ _ _ _ | show KswEnd _ _ _ _ _ _ _ _ _ _ _ _ | show WdEnd _ _ _ _ _ _ _ _ _ _ _ | show SrcStep _ _ _ _ _ _ _ _ _ _ _ _ _ _ | show LCg.CompEnd _ _ _ _ _ _ _ _ _ _ _ _ _ _ | show wpAny _ _ (pyIter _) _ _ _ | show wpAny _ _ (call (Value.builtin "str.join") _ _) _ _ _ | show wpAny _ _ (call (Value.ref _) _ _) _ _ _ | show wpAny _ _ (exec (Stmt.While _ _ _ _) _) _ _ _ | show wpAny _ _ (binaryOp Operator.LShift _ _) _ _ _ | show wpAny _ _ (binaryOp Operator.Mult _ _) _ _ _ | show wpAny _ _ (binaryOp Operator.Pow _ _) _ _ _ | show wpAny _ _ (eval (Expr.ListComp _ _ _ _) _) _ _ _ | show wpAny _ _ (exec (Stmt.Assign _ (Expr.ListComp _ _ _ _) _) _) _ _ _ | show wpAny _ _ (call (Value.type "int") _ _) _ _ _ | show wpAny _ _ (subscriptTail _ _ (Value.ref _) _) _ _ _))); first | (k_end; wrow_close) | walk1 | (dsimp only; walk1) | (leave1; walk_say "STEP leave1"; try dsimp only) | fail "no step")))
  · trivial
  rename Fr g' _ _ _ => F2
  rename News g' _ _ _ => N2
  have hsl := slice_in (x := x) hij hj
  have hll : (Txt.slice x (some (i : Int)) (some (j : Int))).cps.toList.length = j - i := by
    rw [hsl, List.length_take, List.length_drop]
    have : x.cps.toList.length = x.length := Array.length_toList
    (first | lia | omega)
  have hln : (Txt.slice x (some (i : Int)) (some (j : Int))).length ≤ 10000 := by show Array.size _ ≤ _; rw [← Array.length_toList, hll]; (first | lia | omega)
  refine call_int_bad rfl (T'.nodigits.elim fun mc q => ⟨mc, q.1.keeps F2.keep, q.2⟩) (dull_bad (by rw [hsl]; exact hdull) (by rw [hsl]; exact hbad)) (dull_repr (by rw [hsl]; exact hdull) hln) ?_
  intro h3 tk3 e3 hx3
  refine left_new B' FG' F2 N2 hx3 rfl rfl ?_
  intro h4 ht
  exact hE _ _ _ _ ht
theorem part_or {cs : List Nat} {i k j : Nat} (h1 : i ≤ k) (h2 : k ≤ j) {c : Nat} (hc : c ∈ (cs.drop i).take (j - i)) : c ∈ (cs.drop i).take (k - i) ∨ c ∈ (cs.drop k).take (j - k) := by
  have e : j - i = (k - i) + (j - k) := by (first | lia | omega)
  rw [e, List.take_add, List.drop_drop] at hc
  rcases List.mem_append.mp hc with hc | hc
  · exact .inl hc
  · right
    rwa [show i + (k - i) = k from by (first | lia | omega)] at hc
theorem part_in {cs : List Nat} {i j a b : Nat} (h1 : i ≤ a) (h2 : b ≤ j) {c : Nat} (hc : c ∈ (cs.drop a).take (b - a)) : c ∈ (cs.drop i).take (j - i) := by
  obtain ⟨n, hn⟩ := List.getElem?_of_mem hc
  rw [List.getElem?_take] at hn
  split at hn
  · rename_i hlt
    rw [List.getElem?_drop] at hn
    refine List.mem_of_getElem? (i := a - i + n) ?_
    rw [List.getElem?_take, if_pos (by (first | lia | omega)), List.getElem?_drop, show i + (a - i + n) = a + n from by (first | lia | omega)]
    exact hn
  · cases hn
set_option maxHeartbeats 8000000 in
theorem c_inner1_bad {params : Arguments} {body : List Stmt} {scope : Scope} (hdef : innerOf = (params, body, scope)) {f cD cI cS cW c' D : Addr} {x : PySem.Str} {doc pm ctv : Value} {oc : Obj} {vs : Array Value} {tq : Tok}
    {qual : PySem.Str}
    (hf : (f, fnMade (PySem.Str.ofString "inner") qual params body scope (innerCells cD cI cS cW) doc pm c' ctv) ∈ news)
    (hc : (c', oc) ∈ news) (hcd : oc.data = .fields vs) (hcv : vs[1]? = some (.str qual tq)) (I : InnerAt news f cD cI cS cW c' x D)
    {i j : Nat} {ti tj : Tok} (hij : i ≤ j) (hj : j ≤ x.length) (hx : x.length ≤ 10000) (hs : j - i ≤ 4096) (hdull : Dull ((x.cps.toList.drop i).take (j - i))) (hbad : (x.cps.toList.drop i).take (j - i) = [] ∨ ∃ c ∈ (x.cps.toList.drop i).take (j - i), Foreign c)
    (B : Below A₀ base outer h₀) (F : Fr h₀ L s.heap m) (X : Frag.In (Mine.Head.hd.heap_39 w.params) h₀) (N : News h₀ L s.heap news) (T : Top p loose mean mg mb h₀) (hk : cs.kind = .function) (hd : dp + 5 < recursionLimit) (hu : un + 30 < cLine)
    (hE : ∀ e h' tk' dr', Thrown base h₀ L m (envX cn cs L a ccd cl :: outer) news e h' → E e { s with heap := h', toks := tk', drawn := dr' }) :
    wpC (model Challenge.rw_lo0013_01.row.prog w) (ktrTop dp un gd cn cs L a ccd cl outer) (call (.ref f) [.int i ti, .int j tj]) Q E s := by
  by_cases hlong : j - i ≤ 2048
  · exact c_inner0_bad hdef hf hc hcd hcv I hij hj hx hlong hdull hbad B F X N T hk (by (first | lia | omega)) (by (first | lia | omega)) hE
  have hdef' := hdef
  have e : innerOf = (_, [_, _, _], _) := rfl
  rw [e] at hdef
  cases hdef
  refine wpC_call ?_
  have hrec : s.heap.CodeRec (.ref c') qual := codeRec_news N hc hcd hcv
  refine nestC B F X N T rfl rfl hk hf hrec (by ktr_room) (BindsTo.of_eq rfl) (locs rfl) ?_ rfl rfl rfl (by decide)
  intro g' L' h' FG' F' N' B' X' T'
  dsimp only
  have I' := I
  obtain ⟨⟨oD, tD, mD, dD⟩, ⟨oI, mI, dI⟩, ⟨oS, tS, mS, dS⟩, ⟨oW, mW, dW⟩⟩ := I
  have hxl : x.cps.toList.length = x.length := Array.length_toList
  generalize hmd : (i + j + 1) / 2 = k
  have hmid : ((i : Int) + j + 1).fdiv (2 ^ Int.toNat 1) = (k : Int) := by rw [mid_is, hmd]
  have hik : i < k := by (first | lia | omega)
  have hkj : k < j := by (first | lia | omega)
  replace hbad : ∃ c ∈ (x.cps.toList.drop i).take (j - i), Foreign c := by
    rcases hbad with h0 | h0
    · have := congrArg List.length h0
      rw [List.length_take, List.length_drop, List.length_nil] at this
      (first | lia | omega)
    · exact h0
  refine wpC_execs_consA ?_
  (repeat' (first | (k_unfold; (try dsimp only)) | ((fail_if_success (with_reducible (first | show InvEndN _ _ _ _ _ _ _ | show KswEnd _ _ _ _ _ _ _ _ _ _ _ _ | show WdEnd _ _ _ _ _ _ _ _ _ _ _ | show SrcStep _ _ _ _ _ _ _ _ _ _ _ _ _ _ | show LCg.CompEnd _ _ _ _ _ _ _ _ _ _ _ _ _ _ | show wpAny _ _ (pyIter _) _ _ _ | show wpAny _ _ (call (Value.builtin "str.join") _ _) _ _ _ | show wpAny _ _ (call (Value.ref _) _ _) _ _ _ | show wpAny _ _ (exec (Stmt.While _ _ _ _) _) _ _ _ | show wpAny _ _ (binaryOp Operator.LShift _ _) _ _ _ | show wpAny _ _ (binaryOp Operator.Mult _ _) _ _ _ | show wpAny _ _ (binaryOp Operator.Pow _ _) _ _ _ | show wpAny _ _ (eval (Expr.ListComp _ _ _ _) _) _ _ _ | show wpAny _ _ (exec (Stmt.Assign _ (Expr.ListComp _ _ _ _) _) _) _ _ _ | show wpAny _ _ (call (Value.type "int") _ _) _ _ _ | show wpAny _ _ (subscriptTail _ _ (Value.ref _) _) _ _ _))); first | (k_end; wrow_close) | walk1 | (dsimp only; walk1) | (leave1; walk_say "STEP leave1"; try dsimp only) | fail "no step")))
  refine wpC_execs_consA ?_
  (repeat' (first | (k_unfold; (try dsimp only)) | ((fail_if_success (with_reducible (first | show InvEndN _ _ _ _ _ _ _ | show KswEnd _ _ _ _ _ _ _ _ _ _ _ _ | show WdEnd _ _ _ _ _ _ _ _ _ _ _ | show SrcStep _ _ _ _ _ _ _ _ _ _ _ _ _ _ | show LCg.CompEnd _ _ _ _ _ _ _ _ _ _ _ _ _ _ | show wpAny _ _ (pyIter _) _ _ _ | show wpAny _ _ (call (Value.builtin "str.join") _ _) _ _ _ | show wpAny _ _ (call (Value.ref _) _ _) _ _ _ | show wpAny _ _ (exec (Stmt.While _ _ _ _) _) _ _ _ | show wpAny _ _ (binaryOp Operator.LShift _ _) _ _ _ | show wpAny _ _ (binaryOp Operator.Mult _ _) _ _ _ | show wpAny _ _ (binaryOp Operator.Pow _ _) _ _ _ | show wpAny _ _ (eval (Expr.ListComp _ _ _ _) _) _ _ _ | show wpAny _ _ (exec (Stmt.Assign _ (Expr.ListComp _ _ _ _) _) _) _ _ _ | show wpAny _ _ (call (Value.type "int") _ _) _ _ _ | show wpAny _ _ (subscriptTail _ _ (Value.ref _) _) _ _ _))); first | (k_end; wrow_close) | walk1 | (dsimp only; walk1) | (leave1; walk_say "STEP leave1"; try dsimp only) | fail "no step")))
  refine wpC_execs_cons (wpC_Return (wpC_BinOp (wpC_Call ?_)))
  (repeat' (first | (k_unfold; (try dsimp only)) | ((fail_if_success (with_reducible (first | show InvEndN _ _ _ _ _ _ _ | show KswEnd _ _ _ _ _ _ _ _ _ _ _ _ | show WdEnd _ _ _ _ _ _ _ _ _ _ _ | show SrcStep _ _ _ _ _ _ _ _ _ _ _ _ _ _ | show LCg.CompEnd _ _ _ _ _ _ _ _ _ _ _ _ _ _ | show wpAny _ _ (pyIter _) _ _ _ | show wpAny _ _ (call (Value.builtin "str.join") _ _) _ _ _ | show wpAny _ _ (call (Value.ref _) _ _) _ _ _ | show wpAny _ _ (exec (Stmt.While _ _ _ _) _) _ _ _ | show wpAny _ _ (binaryOp Operator.LShift _ _) _ _ _ | show wpAny _ _ (binaryOp Operator.Mult _ _) _ _ _ | show wpAny _ _ (binaryOp Operator.Pow _ _) _ _ _ | show wpAny _ _ (eval (Expr.ListComp _ _ _ _) _) _ _ _ | show wpAny _ _ (exec (Stmt.Assign _ (Expr.ListComp _ _ _ _) _) _) _ _ _ | show wpAny _ _ (call (Value.type "int") _ _) _ _ _ | show wpAny _ _ (subscriptTail _ _ (Value.ref _) _) _ _ _))); first | (k_end; wrow_close) | walk1 | (dsimp only; walk1) | (leave1; walk_say "STEP leave1"; try dsimp only) | fail "no step")))
  have D1 : Dull ((x.cps.toList.drop k).take (j - k)) := fun c hc => hdull c (part_in (by (first | lia | omega)) (Nat.le_refl _) hc)
  have D0 : Dull ((x.cps.toList.drop i).take (k - i)) := fun c hc => hdull c (part_in (Nat.le_refl _) (by (first | lia | omega)) hc)
  by_cases hR : ∃ c ∈ (x.cps.toList.drop k).take (j - k), Foreign c
  · refine wpC_callP (P := FnAt f) keeps_F ?_
    (repeat' (first | (k_unfold; (try dsimp only)) | ((fail_if_success (with_reducible (first | show InvEndN _ _ _ _ _ _ _ | show KswEnd _ _ _ _ _ _ _ _ _ _ _ _ | show WdEnd _ _ _ _ _ _ _ _ _ _ _ | show SrcStep _ _ _ _ _ _ _ _ _ _ _ _ _ _ | show LCg.CompEnd _ _ _ _ _ _ _ _ _ _ _ _ _ _ | show wpAny _ _ (pyIter _) _ _ _ | show wpAny _ _ (call (Value.builtin "str.join") _ _) _ _ _ | show wpAny _ _ (call (Value.ref _) _ _) _ _ _ | show wpAny _ _ (exec (Stmt.While _ _ _ _) _) _ _ _ | show wpAny _ _ (binaryOp Operator.LShift _ _) _ _ _ | show wpAny _ _ (binaryOp Operator.Mult _ _) _ _ _ | show wpAny _ _ (binaryOp Operator.Pow _ _) _ _ _ | show wpAny _ _ (eval (Expr.ListComp _ _ _ _) _) _ _ _ | show wpAny _ _ (exec (Stmt.Assign _ (Expr.ListComp _ _ _ _) _) _) _ _ _ | show wpAny _ _ (call (Value.type "int") _ _) _ _ _ | show wpAny _ _ (subscriptTail _ _ (Value.ref _) _) _ _ _))); first | (k_end; wrow_close) | walk1 | (dsimp only; walk1) | (leave1; walk_say "STEP leave1"; try dsimp only) | fail "no step")))
    rw [hmid]
    refine c_inner0_bad hdef' hf hc hcd hcv I' (Nat.le_of_lt hkj) hj hx (by (first | lia | omega)) D1 (.inr hR) (by assumption) (by assumption) (by assumption) (by assumption) (by assumption) rfl (by ktr_room) (by ktr_units) ?_
    intro e3 h3 tk3 dr3 ht
    refine left_on B' FG' ht rfl ?_
    intro h4 ht4
    exact hE _ _ _ _ ht4
  · have G1 : AllDigits ((x.cps.toList.drop k).take (j - k)) := fun c hc => (D1 c hc).resolve_right fun h => hR ⟨c, hc, h⟩
    have hL : ∃ c ∈ (x.cps.toList.drop i).take (k - i), Foreign c := by
      obtain ⟨c, hc, hF⟩ := hbad
      rcases part_or (Nat.le_of_lt hik) (Nat.le_of_lt hkj) hc with h | h
      · exact ⟨c, h, hF⟩
      · exact absurd ⟨c, h, hF⟩ hR
    refine wpC_callP (P := FnAt f) keeps_F ?_
    (repeat' (first | (k_unfold; (try dsimp only)) | ((fail_if_success (with_reducible (first | show InvEndN _ _ _ _ _ _ _ | show KswEnd _ _ _ _ _ _ _ _ _ _ _ _ | show WdEnd _ _ _ _ _ _ _ _ _ _ _ | show SrcStep _ _ _ _ _ _ _ _ _ _ _ _ _ _ | show LCg.CompEnd _ _ _ _ _ _ _ _ _ _ _ _ _ _ | show wpAny _ _ (pyIter _) _ _ _ | show wpAny _ _ (call (Value.builtin "str.join") _ _) _ _ _ | show wpAny _ _ (call (Value.ref _) _ _) _ _ _ | show wpAny _ _ (exec (Stmt.While _ _ _ _) _) _ _ _ | show wpAny _ _ (binaryOp Operator.LShift _ _) _ _ _ | show wpAny _ _ (binaryOp Operator.Mult _ _) _ _ _ | show wpAny _ _ (binaryOp Operator.Pow _ _) _ _ _ | show wpAny _ _ (eval (Expr.ListComp _ _ _ _) _) _ _ _ | show wpAny _ _ (exec (Stmt.Assign _ (Expr.ListComp _ _ _ _) _) _) _ _ _ | show wpAny _ _ (call (Value.type "int") _ _) _ _ _ | show wpAny _ _ (subscriptTail _ _ (Value.ref _) _) _ _ _))); first | (k_end; wrow_close) | walk1 | (dsimp only; walk1) | (leave1; walk_say "STEP leave1"; try dsimp only) | fail "no step")))
    rw [hmid]
    refine wpC_any (c_inner0 hdef' hf hc hcd hcv I' hkj hj (by rw [sizeLine_eq]; (first | lia | omega)) (by (first | lia | omega)) G1 (by assumption) (by assumption) (by assumption) (by assumption) (by assumption) rfl (by ktr_room) (by ktr_units) ?_)
    intro h2 tk2 t2 F2 N2
    refine wpC_BinOp (wpC_BinOp (wpC_Call ?_))
    (repeat' (first | (k_unfold; (try dsimp only)) | ((fail_if_success (with_reducible (first | show InvEndN _ _ _ _ _ _ _ | show KswEnd _ _ _ _ _ _ _ _ _ _ _ _ | show WdEnd _ _ _ _ _ _ _ _ _ _ _ | show SrcStep _ _ _ _ _ _ _ _ _ _ _ _ _ _ | show LCg.CompEnd _ _ _ _ _ _ _ _ _ _ _ _ _ _ | show wpAny _ _ (pyIter _) _ _ _ | show wpAny _ _ (call (Value.builtin "str.join") _ _) _ _ _ | show wpAny _ _ (call (Value.ref _) _ _) _ _ _ | show wpAny _ _ (exec (Stmt.While _ _ _ _) _) _ _ _ | show wpAny _ _ (binaryOp Operator.LShift _ _) _ _ _ | show wpAny _ _ (binaryOp Operator.Mult _ _) _ _ _ | show wpAny _ _ (binaryOp Operator.Pow _ _) _ _ _ | show wpAny _ _ (eval (Expr.ListComp _ _ _ _) _) _ _ _ | show wpAny _ _ (exec (Stmt.Assign _ (Expr.ListComp _ _ _ _) _) _) _ _ _ | show wpAny _ _ (call (Value.type "int") _ _) _ _ _ | show wpAny _ _ (subscriptTail _ _ (Value.ref _) _) _ _ _))); first | (k_end; wrow_close) | walk1 | (dsimp only; walk1) | (leave1; walk_say "STEP leave1"; try dsimp only) | fail "no step")))
    refine wpC_callP (P := FnAt f) keeps_F ?_
    (repeat' (first | (k_unfold; (try dsimp only)) | ((fail_if_success (with_reducible (first | show InvEndN _ _ _ _ _ _ _ | show KswEnd _ _ _ _ _ _ _ _ _ _ _ _ | show WdEnd _ _ _ _ _ _ _ _ _ _ _ | show SrcStep _ _ _ _ _ _ _ _ _ _ _ _ _ _ | show LCg.CompEnd _ _ _ _ _ _ _ _ _ _ _ _ _ _ | show wpAny _ _ (pyIter _) _ _ _ | show wpAny _ _ (call (Value.builtin "str.join") _ _) _ _ _ | show wpAny _ _ (call (Value.ref _) _ _) _ _ _ | show wpAny _ _ (exec (Stmt.While _ _ _ _) _) _ _ _ | show wpAny _ _ (binaryOp Operator.LShift _ _) _ _ _ | show wpAny _ _ (binaryOp Operator.Mult _ _) _ _ _ | show wpAny _ _ (binaryOp Operator.Pow _ _) _ _ _ | show wpAny _ _ (eval (Expr.ListComp _ _ _ _) _) _ _ _ | show wpAny _ _ (exec (Stmt.Assign _ (Expr.ListComp _ _ _ _) _) _) _ _ _ | show wpAny _ _ (call (Value.type "int") _ _) _ _ _ | show wpAny _ _ (subscriptTail _ _ (Value.ref _) _) _ _ _))); first | (k_end; wrow_close) | walk1 | (dsimp only; walk1) | (leave1; walk_say "STEP leave1"; try dsimp only) | fail "no step")))
    rw [hmid]
    refine c_inner0_bad hdef' hf hc hcd hcv I' (Nat.le_of_lt hik) (by (first | lia | omega)) hx (by (first | lia | omega)) D0 (.inr hL) (by assumption) (by assumption) (by assumption) (by assumption) (by assumption) rfl (by ktr_room) (by ktr_units) ?_
    intro e3 h3 tk3 dr3 ht
    refine left_on B' FG' ht rfl ?_
    intro h4 ht4
    exact hE _ _ _ _ ht4

end
end Mine
end
section
theorem Mine.reset_C6 : True := by
  w_top off
  exact trivial
open PySem PySem.W PySem.NumText PyProof.Rows
set_option maxRecDepth 100000
set_option linter.unusedVariables false
namespace Mine
theorem fill_6 (w : World) (h : Heap) : Frag.In (Mine.Head.hd.heap_39 w.params) h → Challenge.rw_lo0013_01.row.prog = Challenge.rw_lo0013_01.row.prog := by
  k_fill
  intros; rfl
section
variable {w : World} {p : Program} {loose : List Str} {mean : ExcName → Option Value} {mg mb : Str → Option Value} {dp un : Nat} {gd : Option (List Code)} {cn : Str} {cs : Scope} {a : Addr} {ccd : Value} {cl : List (Str × Addr)} {outer : List Env} {A₀ : Around} {base h₀ : Heap} {L : Addr} {m : Str → Option Value} {news : List (Addr × Obj)} {s : Shared} {Q E : Value → Shared → Prop}

/-- the table of _str_to_int_inner's code holds the code of inner -/
structure TabHit (news : List (Addr × Obj)) (c' : Addr) : Prop where
  tab : (24, tabObj #[rawInt 46, rawInt 4, .ref c']) ∈ news
  code : ∃ oc vs t, (c', oc) ∈ news ∧ oc.data = .fields vs ∧ vs[1]? = some (.str (PySem.Str.ofString "_str_to_int_inner.<locals>.inner") t)

/-- four cells above a ledger -/
structure Four (L : Addr) (news : List (Addr × Obj)) : Prop where
  off : ∀ p ∈ news, (p.1 : Nat) < L
theorem Four.of {L : Addr} {news : List (Addr × Obj)} (h : ∀ p ∈ news, p.1 < L) : Four L news := ⟨h⟩
section
variable {L : Addr} {news : List (Addr × Obj)} {o1 o2 o3 o4 : Obj}
theorem Four.old (h : Four L news) {q : Addr × Obj} (hq : q ∈ news) : q ∈ (L + 1 + 1 + 1 + 1, o1) :: (L + 1 + 1 + 1, o2) :: (L + 1 + 1, o3) :: (L + 1, o4) :: news := .tail _ (.tail _ (.tail _ (.tail _ hq)))
theorem ne_of_ltN {a b : Addr} (h : @LT.lt Nat _ a b) : a ≠ b := Nat.ne_of_lt h
theorem Four.u1 (h : Four L news) : UpdF (L + 1 + 1 + 1 + 1) o1 ((L + 1 + 1 + 1 + 1, o1) :: (L + 1 + 1 + 1, o2) :: (L + 1 + 1, o3) :: (L + 1, o4) :: news) (fun o => (L + 1 + 1 + 1 + 1, o) :: (L + 1 + 1 + 1, o2) :: (L + 1 + 1, o3) :: (L + 1, o4) :: news) := by
  refine UpdF.head fun p hp => ne_of_ltN ?_
  rcases List.mem_cons.mp hp with rfl | hp
  · exact Nat.lt_succ_self _
  rcases List.mem_cons.mp hp with rfl | hp
  · show @LT.lt Nat _ (L + 1 + 1) (L + 1 + 1 + 1 + 1); (first | lia | omega)
  rcases List.mem_cons.mp hp with rfl | hp
  · show @LT.lt Nat _ (L + 1) (L + 1 + 1 + 1 + 1); (first | lia | omega)
  · have : @LT.lt Nat _ p.1 L := h.off p hp
    show @LT.lt Nat _ p.1 (L + 1 + 1 + 1 + 1); (first | lia | omega)
theorem Four.u2 (h : Four L news) : UpdF (L + 1 + 1 + 1) o2 ((L + 1 + 1 + 1 + 1, o1) :: (L + 1 + 1 + 1, o2) :: (L + 1 + 1, o3) :: (L + 1, o4) :: news) (fun o => (L + 1 + 1 + 1 + 1, o1) :: (L + 1 + 1 + 1, o) :: (L + 1 + 1, o3) :: (L + 1, o4) :: news) := by
  refine UpdF.tail (Nat.ne_of_gt (Nat.lt_succ_self _)) (UpdF.head fun p hp => ne_of_ltN ?_)
  rcases List.mem_cons.mp hp with rfl | hp
  · exact Nat.lt_succ_self _
  rcases List.mem_cons.mp hp with rfl | hp
  · show @LT.lt Nat _ (L + 1) (L + 1 + 1 + 1); (first | lia | omega)
  · have : @LT.lt Nat _ p.1 L := h.off p hp
    show @LT.lt Nat _ p.1 (L + 1 + 1 + 1); (first | lia | omega)
theorem Four.u3 (h : Four L news) : UpdF (L + 1 + 1) o3 ((L + 1 + 1 + 1 + 1, o1) :: (L + 1 + 1 + 1, o2) :: (L + 1 + 1, o3) :: (L + 1, o4) :: news) (fun o => (L + 1 + 1 + 1 + 1, o1) :: (L + 1 + 1 + 1, o2) :: (L + 1 + 1, o) :: (L + 1, o4) :: news) := by
  refine UpdF.tail (Nat.ne_of_gt (Nat.lt_succ_of_lt (Nat.lt_succ_self _))) (UpdF.tail (Nat.ne_of_gt (Nat.lt_succ_self _)) (UpdF.head fun p hp => ne_of_ltN ?_))
  rcases List.mem_cons.mp hp with rfl | hp
  · exact Nat.lt_succ_self _
  · have : @LT.lt Nat _ p.1 L := h.off p hp
    show @LT.lt Nat _ p.1 (L + 1 + 1); (first | lia | omega)
end

theorem qual_in {env : Env} (h1 : (env.kindOf (PySem.Str.ofString "inner") == some .globalExplicit) = false) (h2 : env.qual = PySem.Str.ofString "_str_to_int_inner" ++ PySem.Str.ofString ".<locals>.") :
    qualnameIn env (PySem.Str.ofString "inner") (PySem.Str.ofString "inner") = PySem.Str.ofString "_str_to_int_inner.<locals>.inner" := by
  unfold qualnameIn
  rw [h1, h2]
  decide +kernel

set_option maxHeartbeats 8000000 in
theorem c_s2i {x : PySem.Str} {tx : Tok} {c' : Addr} (H : TabHit news c') (C : CodeHd base 28 24) (h0 : 0 < x.length) (h1 : x.length ≤ 4095) (hdig : AllDigits x.cps.toList)
    (B : Below A₀ base outer h₀) (F : Fr h₀ L s.heap m) (X : Frag.In (Mine.Head.hd.heap_39 w.params) h₀) (N : News h₀ L s.heap news) (T : Top p loose mean mg mb h₀) (hk : cs.kind = .function) (hd : dp + 8 < recursionLimit) (hu : un + 60 < cLine)
    (hret : ∀ h' tk' dr' t', Fr h₀ L h' m → News h₀ L h' news → Q (.int (digitsVal x.cps.toList : Nat) t') { s with heap := h', toks := tk', drawn := dr' }) :
    wpAny (model Challenge.rw_lo0013_01.row.prog w) (ktrTop dp un gd cn cs L a ccd cl outer) (call (.ref 29) [.str x tx]) Q E s := by
  obtain ⟨htab, oc, vs, tq, hc, hcd, hcv⟩ := H
  refine wpAny_call ?_
  k_dflt (refine' code_defC ?k1 ?k2 ?k3 ?k4 ?k5 ?kA ?kF ?kK ?k6 ?k7 ?k8 ?k9 ?kB ?kD ?_ ?c2 ?c3 ?c4; (case kA => exact rfl); (case kF => exact rfl); (case kK => first | exact rfl | assumption); (case k1 => exact B); (case k2 => exact F); (case k3 => exact X); (case k4 => exact N); (case k5 => exact T); (case k6 => k_is); (case k7 => k_is); (case k8 => ktr_room); (case k9 => exact BindsTo.of_eq rfl); (case kB => exact rfl); (case kD => decide +kernel); (case c2 => exact rfl); (case c3 => exact rfl); (case c4 => exact rfl); k_whole)
  intro g' L' h' tk' cells' FG' F' N' Y' B' X' T' l1
  obtain ⟨o1, o2, o3, o4, rfl, d1, d2, d3, d4⟩ := CellsAre.four Y'
  simp only [List.cons_append, List.nil_append] at N'
  dsimp only
  replace d1 : o1.data = .cell none := d1
  replace d2 : o2.data = .cell none := d2
  replace d3 : o3.data = .cell none := d3
  replace d4 : o4.data = .cell (some (.str x tx)) := d4
  clear Y'
  have A4 := Four.of (L := L') l1
  (repeat' (first | (k_unfold; (try dsimp only)) | ((fail_if_success (with_reducible (first | show InvEndN _ _ _ _ _ _ _ | show KswEnd _ _ _ _ _ _ _ _ _ _ _ _ | show WdEnd _ _ _ _ _ _ _ _ _ _ _ | show SrcStep _ _ _ _ _ _ _ _ _ _ _ _ _ _ | show LCg.CompEnd _ _ _ _ _ _ _ _ _ _ _ _ _ _ | show wpAny _ _ (pyIter _) _ _ _ | show wpAny _ _ (call (Value.builtin "str.join") _ _) _ _ _ | show wpAny _ _ (call (Value.ref _) _ _) _ _ _ | show wpAny _ _ (exec (Stmt.While _ _ _ _) _) _ _ _ | show wpAny _ _ (binaryOp Operator.LShift _ _) _ _ _ | show wpAny _ _ (binaryOp Operator.Mult _ _) _ _ _ | show wpAny _ _ (binaryOp Operator.Pow _ _) _ _ _ | show wpAny _ _ (eval (Expr.ListComp _ _ _ _) _) _ _ _ | show wpAny _ _ (exec (Stmt.Assign _ (Expr.ListComp _ _ _ _) _) _) _ _ _ | show wpAny _ _ (call (Value.type "int") _ _) _ _ _ | show wpAny _ _ (exec (Stmt.FunctionDef _ _ _ _ _ _ _ _ _ _) _) _ _ _ | show wpAny _ _ (subscriptTail _ _ (Value.ref _) _) _ _ _ | show wpAny _ _ (storeName _ _ _) _ _ _))); first | (k_end; wrow_close) | walk1 | (dsimp only; walk1) | (leave1; walk_say "STEP leave1"; try dsimp only) | fail "no step")))
  refine storeX_C F' N' (c := L' + 1 + 1) rfl A4.u3 d3 ?_
  intro h2 oD F2 N2 dD
  (repeat' (first | (k_unfold; (try dsimp only)) | ((fail_if_success (with_reducible (first | show InvEndN _ _ _ _ _ _ _ | show KswEnd _ _ _ _ _ _ _ _ _ _ _ _ | show WdEnd _ _ _ _ _ _ _ _ _ _ _ | show SrcStep _ _ _ _ _ _ _ _ _ _ _ _ _ _ | show LCg.CompEnd _ _ _ _ _ _ _ _ _ _ _ _ _ _ | show wpAny _ _ (pyIter _) _ _ _ | show wpAny _ _ (call (Value.builtin "str.join") _ _) _ _ _ | show wpAny _ _ (call (Value.ref _) _ _) _ _ _ | show wpAny _ _ (exec (Stmt.While _ _ _ _) _) _ _ _ | show wpAny _ _ (binaryOp Operator.LShift _ _) _ _ _ | show wpAny _ _ (binaryOp Operator.Mult _ _) _ _ _ | show wpAny _ _ (binaryOp Operator.Pow _ _) _ _ _ | show wpAny _ _ (eval (Expr.ListComp _ _ _ _) _) _ _ _ | show wpAny _ _ (exec (Stmt.Assign _ (Expr.ListComp _ _ _ _) _) _) _ _ _ | show wpAny _ _ (call (Value.type "int") _ _) _ _ _ | show wpAny _ _ (exec (Stmt.FunctionDef _ _ _ _ _ _ _ _ _ _) _) _ _ _ | show wpAny _ _ (subscriptTail _ _ (Value.ref _) _) _ _ _ | show wpAny _ _ (storeName _ _ _) _ _ _))); first | (k_end; wrow_close) | walk1 | (dsimp only; walk1) | (leave1; walk_say "STEP leave1"; try dsimp only) | fail "no step")))
  refine nestDef_K rfl rfl rfl ?_
  rw [qual_in (by rfl) (by rfl)]
  refine nestHit_K F2 N2 T' (C.keeps B'.stays) rfl (c' := c') (A4.old htab) (by kn_triples) (by kn_hit) rfl ?_
  intro f ctv doc h3 tk3 F3 N3 l3
  (repeat' (first | (k_unfold; (try dsimp only)) | ((fail_if_success (with_reducible (first | show InvEndN _ _ _ _ _ _ _ | show KswEnd _ _ _ _ _ _ _ _ _ _ _ _ | show WdEnd _ _ _ _ _ _ _ _ _ _ _ | show SrcStep _ _ _ _ _ _ _ _ _ _ _ _ _ _ | show LCg.CompEnd _ _ _ _ _ _ _ _ _ _ _ _ _ _ | show wpAny _ _ (pyIter _) _ _ _ | show wpAny _ _ (call (Value.builtin "str.join") _ _) _ _ _ | show wpAny _ _ (call (Value.ref _) _ _) _ _ _ | show wpAny _ _ (exec (Stmt.While _ _ _ _) _) _ _ _ | show wpAny _ _ (binaryOp Operator.LShift _ _) _ _ _ | show wpAny _ _ (binaryOp Operator.Mult _ _) _ _ _ | show wpAny _ _ (binaryOp Operator.Pow _ _) _ _ _ | show wpAny _ _ (eval (Expr.ListComp _ _ _ _) _) _ _ _ | show wpAny _ _ (exec (Stmt.Assign _ (Expr.ListComp _ _ _ _) _) _) _ _ _ | show wpAny _ _ (call (Value.type "int") _ _) _ _ _ | show wpAny _ _ (exec (Stmt.FunctionDef _ _ _ _ _ _ _ _ _ _) _) _ _ _ | show wpAny _ _ (subscriptTail _ _ (Value.ref _) _) _ _ _ | show wpAny _ _ (storeName _ _ _) _ _ _))); first | (k_end; wrow_close) | walk1 | (dsimp only; walk1) | (leave1; walk_say "STEP leave1"; try dsimp only) | fail "no step")))
  refine storeX_C F3 N3 (c := L' + 1 + 1 + 1) rfl (UpdF.tail (Nat.ne_of_gt (l3 _ (.tail _ (.head _)))) A4.u2) d2 ?_
  intro h4 oI F4 N4 dI
  (repeat' (first | (k_unfold; (try dsimp only)) | ((fail_if_success (with_reducible (first | show InvEndN _ _ _ _ _ _ _ | show KswEnd _ _ _ _ _ _ _ _ _ _ _ _ | show WdEnd _ _ _ _ _ _ _ _ _ _ _ | show SrcStep _ _ _ _ _ _ _ _ _ _ _ _ _ _ | show LCg.CompEnd _ _ _ _ _ _ _ _ _ _ _ _ _ _ | show wpAny _ _ (pyIter _) _ _ _ | show wpAny _ _ (call (Value.builtin "str.join") _ _) _ _ _ | show wpAny _ _ (call (Value.ref _) _ _) _ _ _ | show wpAny _ _ (exec (Stmt.While _ _ _ _) _) _ _ _ | show wpAny _ _ (binaryOp Operator.LShift _ _) _ _ _ | show wpAny _ _ (binaryOp Operator.Mult _ _) _ _ _ | show wpAny _ _ (binaryOp Operator.Pow _ _) _ _ _ | show wpAny _ _ (eval (Expr.ListComp _ _ _ _) _) _ _ _ | show wpAny _ _ (exec (Stmt.Assign _ (Expr.ListComp _ _ _ _) _) _) _ _ _ | show wpAny _ _ (call (Value.type "int") _ _) _ _ _ | show wpAny _ _ (exec (Stmt.FunctionDef _ _ _ _ _ _ _ _ _ _) _) _ _ _ | show wpAny _ _ (subscriptTail _ _ (Value.ref _) _) _ _ _ | show wpAny _ _ (storeName _ _ _) _ _ _))); first | (k_end; wrow_close) | walk1 | (dsimp only; walk1) | (leave1; walk_say "STEP leave1"; try dsimp only) | fail "no step")))
  refine c_powers (wv := (x.length : Int)) (mt := 2048) ⟨by (first | lia | omega), by (first | lia | omega), by (first | lia | omega)⟩ (.inr (by (first | lia | omega))) (by (first | lia | omega)) (by assumption) (by assumption) (by assumption) (by assumption) (by assumption) rfl (by ktr_room) (by ktr_units) ?_
  intro D od kvs ns h5 tk5 dr5 F5 N5 l5 hDm hod hP hns
  (repeat' (first | (k_unfold; (try dsimp only)) | ((fail_if_success (with_reducible (first | show InvEndN _ _ _ _ _ _ _ | show KswEnd _ _ _ _ _ _ _ _ _ _ _ _ | show WdEnd _ _ _ _ _ _ _ _ _ _ _ | show SrcStep _ _ _ _ _ _ _ _ _ _ _ _ _ _ | show LCg.CompEnd _ _ _ _ _ _ _ _ _ _ _ _ _ _ | show wpAny _ _ (pyIter _) _ _ _ | show wpAny _ _ (call (Value.builtin "str.join") _ _) _ _ _ | show wpAny _ _ (call (Value.ref _) _ _) _ _ _ | show wpAny _ _ (exec (Stmt.While _ _ _ _) _) _ _ _ | show wpAny _ _ (binaryOp Operator.LShift _ _) _ _ _ | show wpAny _ _ (binaryOp Operator.Mult _ _) _ _ _ | show wpAny _ _ (binaryOp Operator.Pow _ _) _ _ _ | show wpAny _ _ (eval (Expr.ListComp _ _ _ _) _) _ _ _ | show wpAny _ _ (exec (Stmt.Assign _ (Expr.ListComp _ _ _ _) _) _) _ _ _ | show wpAny _ _ (call (Value.type "int") _ _) _ _ _ | show wpAny _ _ (exec (Stmt.FunctionDef _ _ _ _ _ _ _ _ _ _) _) _ _ _ | show wpAny _ _ (subscriptTail _ _ (Value.ref _) _) _ _ _ | show wpAny _ _ (storeName _ _ _) _ _ _))); first | (k_end; wrow_close) | walk1 | (dsimp only; walk1) | (leave1; walk_say "STEP leave1"; try dsimp only) | fail "no step")))
  refine storeX_C F5 N5 (c := L' + 1 + 1 + 1 + 1) rfl (UpdF.tail (Nat.ne_of_gt (l5 _ (.tail _ (.head _)))) (UpdF.tail (Nat.ne_of_gt (l3 _ (.head _))) A4.u1)) d1 ?_
  intro h6 oW F6 N6 dW
  (repeat' (first | (k_unfold; (try dsimp only)) | ((fail_if_success (with_reducible (first | show InvEndN _ _ _ _ _ _ _ | show KswEnd _ _ _ _ _ _ _ _ _ _ _ _ | show WdEnd _ _ _ _ _ _ _ _ _ _ _ | show SrcStep _ _ _ _ _ _ _ _ _ _ _ _ _ _ | show LCg.CompEnd _ _ _ _ _ _ _ _ _ _ _ _ _ _ | show wpAny _ _ (pyIter _) _ _ _ | show wpAny _ _ (call (Value.builtin "str.join") _ _) _ _ _ | show wpAny _ _ (call (Value.ref _) _ _) _ _ _ | show wpAny _ _ (exec (Stmt.While _ _ _ _) _) _ _ _ | show wpAny _ _ (binaryOp Operator.LShift _ _) _ _ _ | show wpAny _ _ (binaryOp Operator.Mult _ _) _ _ _ | show wpAny _ _ (binaryOp Operator.Pow _ _) _ _ _ | show wpAny _ _ (eval (Expr.ListComp _ _ _ _) _) _ _ _ | show wpAny _ _ (exec (Stmt.Assign _ (Expr.ListComp _ _ _ _) _) _) _ _ _ | show wpAny _ _ (call (Value.type "int") _ _) _ _ _ | show wpAny _ _ (exec (Stmt.FunctionDef _ _ _ _ _ _ _ _ _ _) _) _ _ _ | show wpAny _ _ (subscriptTail _ _ (Value.ref _) _) _ _ _ | show wpAny _ _ (storeName _ _ _) _ _ _))); first | (k_end; wrow_close) | walk1 | (dsimp only; walk1) | (leave1; walk_say "STEP leave1"; try dsimp only) | fail "no step")))
  have hxl : x.cps.toList.length = x.length := Array.length_toList
  have hwhole : (x.cps.toList.drop 0).take (x.length - 0) = x.cps.toList := by
    rw [List.drop_zero, Nat.sub_zero, List.take_of_length_le (by (first | lia | omega))]
  refine c_inner1 (i := 0) (j := x.length) (D := D) (x := x) rfl (.tail _ (.head _)) (.tail _ (.tail _ (A4.old hc))) hcd hcv
    ⟨⟨oD, _, .tail _ (.tail _ (.tail _ (.tail _ (.head _)))), dD⟩, ⟨oI, .tail _ (.tail _ (.tail _ (.head _))), dI⟩, ⟨o4, _, .tail _ (.tail _ (.tail _ (.tail _ (.tail _ (.head _))))), d4⟩, ⟨oW, .tail _ (.tail _ (.head _)), dW⟩⟩
    (.head _) hod hP h0 (Nat.le_refl _) (by rw [sizeLine_eq]; (first | lia | omega)) (by (first | lia | omega)) ?_ (by rw [hwhole]; exact hdig) (by assumption) F6 (by assumption) N6 (by assumption) rfl (by ktr_room) (by ktr_units) ?_
  · intro hlong
    rcases hns with ⟨hn, _⟩ | ⟨_, ⟨_, rfl⟩ | ⟨hn, _⟩⟩
    · (first | lia | omega)
    · refine List.mem_singleton.mpr ?_
      (first | lia | omega)
    · (first | lia | omega)
  intro h7 tk7 t7 F7 N7
  rw [hwhole]
  (repeat' (first | (k_unfold; (try dsimp only)) | ((fail_if_success (with_reducible (first | show InvEndN _ _ _ _ _ _ _ | show KswEnd _ _ _ _ _ _ _ _ _ _ _ _ | show WdEnd _ _ _ _ _ _ _ _ _ _ _ | show SrcStep _ _ _ _ _ _ _ _ _ _ _ _ _ _ | show LCg.CompEnd _ _ _ _ _ _ _ _ _ _ _ _ _ _ | show wpAny _ _ (pyIter _) _ _ _ | show wpAny _ _ (call (Value.builtin "str.join") _ _) _ _ _ | show wpAny _ _ (call (Value.ref _) _ _) _ _ _ | show wpAny _ _ (exec (Stmt.While _ _ _ _) _) _ _ _ | show wpAny _ _ (binaryOp Operator.LShift _ _) _ _ _ | show wpAny _ _ (binaryOp Operator.Mult _ _) _ _ _ | show wpAny _ _ (binaryOp Operator.Pow _ _) _ _ _ | show wpAny _ _ (eval (Expr.ListComp _ _ _ _) _) _ _ _ | show wpAny _ _ (exec (Stmt.Assign _ (Expr.ListComp _ _ _ _) _) _) _ _ _ | show wpAny _ _ (call (Value.type "int") _ _) _ _ _ | show wpAny _ _ (exec (Stmt.FunctionDef _ _ _ _ _ _ _ _ _ _) _) _ _ _ | show wpAny _ _ (subscriptTail _ _ (Value.ref _) _) _ _ _ | show wpAny _ _ (storeName _ _ _) _ _ _))); first | (k_end; wrow_close) | walk1 | (dsimp only; walk1) | (leave1; walk_say "STEP leave1"; try dsimp only) | fail "no step")))
  rename News h₀ _ _ _ => kN
  exact hret _ _ _ _ (by assumption) (fun q hq => kN q (.tail _ (.tail _ (A4.old hq))))

theorem reset_C10 : True := by
  w_top off
  exact trivial
/-- the table of _str_to_int_inner's code: laid, or still empty -/
noncomputable def Tab0 (news : List (Addr × Obj)) : Prop := (∃ c', TabHit news c') ∨ ∃ g, UpdF 24 (tabObj #[]) news g
structure TabTo (news newsX : List (Addr × Obj)) (c' : Addr) : Prop where
  hit : TabHit newsX c'
  old : ∀ q ∈ news, q.1 ≠ 24 → q ∈ newsX
theorem nest_either {M : Model} {A : Around} {pos : Pos} {firstLine : Nat} {clos : List (PySem.Str × Addr)} {name : PySem.Str} {params : Arguments} {body : List Stmt} {scope : Scope} {o1 o2 o3 o4 : Obj} {Q : Value → Shared → Prop}
    (F : Fr h₀ L s.heap m) (N : News h₀ L s.heap ((L + 1 + 1 + 1 + 1, o1) :: (L + 1 + 1 + 1, o2) :: (L + 1 + 1, o3) :: (L + 1, o4) :: news)) (l : ∀ p ∈ news, p.1 < L) (T : Top p loose mean mg mb h₀) (C : CodeHd h₀ 28 24) (hcd : ccd = .ref 28) (H : Tab0 news)
    (hl : pos.line = 46) (hc : pos.col = 4) (hcl : closureFor scope (envX cn cs L a ccd cl) = pure clos)
    (h : ∀ f c' newsX ctv doc h' tk, Fr h₀ L h' m → News h₀ L h' ((f, fnMade name (PySem.Str.ofString "_str_to_int_inner.<locals>.inner") params body scope clos doc ((mg "__name__").getD .none) c' ctv) :: (L + 1 + 1 + 1 + 1, o1) :: (L + 1 + 1 + 1, o2) :: (L + 1 + 1, o3) :: (L + 1, o4) :: newsX) →
      TabTo news newsX c' → @LT.lt Nat _ (L + 1 + 1 + 1 + 1) f → (∀ q ∈ newsX, @LT.lt Nat _ q.1 L ∨ @LT.lt Nat _ (L + 1 + 1 + 1 + 1) q.1) → Q (.ref f) { s with heap := h', toks := tk }) :
    wpAny M A (makeFunction name (PySem.Str.ofString "_str_to_int_inner.<locals>.inner") params (.stmts body) scope (envX cn cs L a ccd cl) [] [] [] pos firstLine) Q E s := by
  rcases H with ⟨c', H⟩ | ⟨g, U⟩
  · refine nestHit_K F N T C hcd (c' := c') (.tail _ (.tail _ (.tail _ (.tail _ H.tab)))) (by kn_triples) (by simp [codeAmong, rawInt, hl, hc]) hcl ?_
    intro f ctv doc h' tk F' N' lf
    exact h f c' news ctv doc h' tk F' N' ⟨H, fun q hq _ => hq⟩ (lf _ (.head _)) (fun q hq => .inl (l q hq))
  · obtain ⟨own, rest, rfl, hgr, h1, h2⟩ := U.split
    have h24 : @LT.lt Nat _ 24 L := l (24, tabObj #[]) (List.mem_append_right _ (.head _))
    have ne {k : Nat} : L + k ≠ 24 := by have : @LT.lt Nat _ 24 L := h24; show ¬ (@Eq Nat _ _); (first | lia | omega)
    refine nest_K F N T C hcd (.tail (ne (k := 4)) (.tail (ne (k := 3)) (.tail (ne (k := 2)) (.tail (ne (k := 1)) U)))) (by kn_triples) (by kn_among) hcl ?_
    intro f c' oc vs t ctv doc h' tk F' N' hd hv lc lf
    rw [hl, hc, hgr] at N'
    have l4 : @LT.lt Nat _ (L + 1 + 1 + 1 + 1) c' := lc _ (.head _)
    have lf' : @LT.lt Nat _ c' f := lf
    refine h f c' ((c', oc) :: (own ++ (24, tabObj #[rawInt 46, rawInt 4, .ref c']) :: rest)) ctv doc h' tk F' (fun q hq => N' q ?_) ⟨⟨.tail _ (List.mem_append_right _ (.head _)), oc, vs, t, .head _, hd, hv⟩, fun q hq h24' => ?_⟩ (by (first | lia | omega)) (fun q hq => ?_)
    · simp only [List.mem_cons, List.mem_append] at hq ⊢
      rcases hq with hq | hq | hq | hq | hq | hq | hq
      · exact .inl hq
      · exact .inr (.inr (.inl hq))
      · exact .inr (.inr (.inr (.inl hq)))
      · exact .inr (.inr (.inr (.inr (.inl hq))))
      · exact .inr (.inr (.inr (.inr (.inr (.inl hq)))))
      · exact .inr (.inl hq)
      · exact .inr (.inr (.inr (.inr (.inr (.inr hq)))))
    · simp only [List.mem_cons, List.mem_append] at hq ⊢
      rcases hq with hq | rfl | hq
      · exact .inr (.inl hq)
      · exact absurd rfl h24'
      · exact .inr (.inr (.inr hq))
    · simp only [List.mem_cons, List.mem_append] at hq
      rcases hq with rfl | hq | rfl | hq
      · exact .inr l4
      · exact .inl (l q (List.mem_append_left _ hq))
      · exact .inl h24
      · exact .inl (l q (List.mem_append_right _ (.tail _ hq)))
structure FourX (L : Addr) (news : List (Addr × Obj)) : Prop where
  off : ∀ q ∈ news, @LT.lt Nat _ q.1 L ∨ @LT.lt Nat _ (L + 1 + 1 + 1 + 1) q.1
section
variable {L : Addr} {news : List (Addr × Obj)} {o1 o2 o3 o4 : Obj}
theorem neN {a b : Addr} (h : ¬ @Eq Nat a b) : a ≠ b := h
theorem FourX.u1 (h : FourX L news) : UpdF (L + 1 + 1 + 1 + 1) o1 ((L + 1 + 1 + 1 + 1, o1) :: (L + 1 + 1 + 1, o2) :: (L + 1 + 1, o3) :: (L + 1, o4) :: news) (fun o => (L + 1 + 1 + 1 + 1, o) :: (L + 1 + 1 + 1, o2) :: (L + 1 + 1, o3) :: (L + 1, o4) :: news) := by
  refine UpdF.head fun p hp => neN ?_
  rcases List.mem_cons.mp hp with rfl | hp
  · show ¬ @Eq Nat (L + 1 + 1 + 1) (L + 1 + 1 + 1 + 1); (first | lia | omega)
  rcases List.mem_cons.mp hp with rfl | hp
  · show ¬ @Eq Nat (L + 1 + 1) (L + 1 + 1 + 1 + 1); (first | lia | omega)
  rcases List.mem_cons.mp hp with rfl | hp
  · show ¬ @Eq Nat (L + 1) (L + 1 + 1 + 1 + 1); (first | lia | omega)
  · have := h.off p hp
    show ¬ @Eq Nat p.1 (L + 1 + 1 + 1 + 1); (first | lia | omega)
theorem FourX.u2 (h : FourX L news) : UpdF (L + 1 + 1 + 1) o2 ((L + 1 + 1 + 1 + 1, o1) :: (L + 1 + 1 + 1, o2) :: (L + 1 + 1, o3) :: (L + 1, o4) :: news) (fun o => (L + 1 + 1 + 1 + 1, o1) :: (L + 1 + 1 + 1, o) :: (L + 1 + 1, o3) :: (L + 1, o4) :: news) := by
  refine UpdF.tail (Nat.ne_of_gt (Nat.lt_succ_self _)) (UpdF.head fun p hp => neN ?_)
  rcases List.mem_cons.mp hp with rfl | hp
  · show ¬ @Eq Nat (L + 1 + 1) (L + 1 + 1 + 1); (first | lia | omega)
  rcases List.mem_cons.mp hp with rfl | hp
  · show ¬ @Eq Nat (L + 1) (L + 1 + 1 + 1); (first | lia | omega)
  · have := h.off p hp
    show ¬ @Eq Nat p.1 (L + 1 + 1 + 1); (first | lia | omega)
end
set_option maxHeartbeats 8000000 in
theorem c_s2i_bad {x : PySem.Str} {tx : Tok} (H : Tab0 news) (C : CodeHd base 28 24) (h1 : x.length ≤ 4095) (hdull : Dull x.cps.toList) (hbad : x.cps.toList = [] ∨ ∃ c ∈ x.cps.toList, Foreign c)
    (B : Below A₀ base outer h₀) (F : Fr h₀ L s.heap m) (X : Frag.In (Mine.Head.hd.heap_39 w.params) h₀) (N : News h₀ L s.heap news) (T : Top p loose mean mg mb h₀) (hk : cs.kind = .function) (hd : dp + 8 < recursionLimit) (hu : un + 60 < cLine)
    (hE : ∀ e h' tk' dr' c' newsX, TabTo news newsX c' → Thrown base h₀ L m (envX cn cs L a ccd cl :: outer) newsX e h' → E e { s with heap := h', toks := tk', drawn := dr' }) :
    wpC (model Challenge.rw_lo0013_01.row.prog w) (ktrTop dp un gd cn cs L a ccd cl outer) (call (.ref 29) [.str x tx]) Q E s := by
  refine wpC_call ?_
  k_dflt (refine' defCC ?k1 ?k2 ?k3 ?k4 ?k5 ?kA ?kF ?kK ?k6 ?k7 ?k8 ?k9 ?kB ?kD ?_ ?c2 ?c3 ?c4; (case kA => exact rfl); (case kF => exact rfl); (case kK => first | exact rfl | assumption); (case k1 => exact B); (case k2 => exact F); (case k3 => exact X); (case k4 => exact N); (case k5 => exact T); (case k6 => k_is); (case k7 => k_is); (case k8 => ktr_room); (case k9 => exact BindsTo.of_eq rfl); (case kB => exact rfl); (case kD => decide +kernel); (case c2 => exact rfl); (case c3 => exact rfl); (case c4 => exact rfl); k_whole)
  intro g' L' h' tk' cells' FG' F' N' Y' B' X' T' l1
  obtain ⟨o1, o2, o3, o4, rfl, d1, d2, d3, d4⟩ := CellsAre.four Y'
  simp only [List.cons_append, List.nil_append] at N'
  dsimp only
  replace d1 : o1.data = .cell none := d1
  replace d2 : o2.data = .cell none := d2
  replace d3 : o3.data = .cell none := d3
  replace d4 : o4.data = .cell (some (.str x tx)) := d4
  clear Y'
  have A4 := Four.of (L := L') l1
  refine wpC_execs_consA ?_
  (repeat' (first | (k_unfold; (try dsimp only)) | ((fail_if_success (with_reducible (first | show InvEndN _ _ _ _ _ _ _ | show KswEnd _ _ _ _ _ _ _ _ _ _ _ _ | show WdEnd _ _ _ _ _ _ _ _ _ _ _ | show SrcStep _ _ _ _ _ _ _ _ _ _ _ _ _ _ | show LCg.CompEnd _ _ _ _ _ _ _ _ _ _ _ _ _ _ | show wpAny _ _ (pyIter _) _ _ _ | show wpAny _ _ (call (Value.builtin "str.join") _ _) _ _ _ | show wpAny _ _ (call (Value.ref _) _ _) _ _ _ | show wpAny _ _ (exec (Stmt.While _ _ _ _) _) _ _ _ | show wpAny _ _ (binaryOp Operator.LShift _ _) _ _ _ | show wpAny _ _ (binaryOp Operator.Mult _ _) _ _ _ | show wpAny _ _ (binaryOp Operator.Pow _ _) _ _ _ | show wpAny _ _ (eval (Expr.ListComp _ _ _ _) _) _ _ _ | show wpAny _ _ (exec (Stmt.Assign _ (Expr.ListComp _ _ _ _) _) _) _ _ _ | show wpAny _ _ (call (Value.type "int") _ _) _ _ _ | show wpAny _ _ (exec (Stmt.FunctionDef _ _ _ _ _ _ _ _ _ _) _) _ _ _ | show wpAny _ _ (subscriptTail _ _ (Value.ref _) _) _ _ _ | show wpAny _ _ (storeName _ _ _) _ _ _))); first | (k_end; wrow_close) | walk1 | (dsimp only; walk1) | (leave1; walk_say "STEP leave1"; try dsimp only) | fail "no step")))
  refine storeX_C F' N' (c := L' + 1 + 1) rfl A4.u3 d3 ?_
  intro h2 oD F2 N2 dD
  (repeat' (first | (k_unfold; (try dsimp only)) | ((fail_if_success (with_reducible (first | show InvEndN _ _ _ _ _ _ _ | show KswEnd _ _ _ _ _ _ _ _ _ _ _ _ | show WdEnd _ _ _ _ _ _ _ _ _ _ _ | show SrcStep _ _ _ _ _ _ _ _ _ _ _ _ _ _ | show LCg.CompEnd _ _ _ _ _ _ _ _ _ _ _ _ _ _ | show wpAny _ _ (pyIter _) _ _ _ | show wpAny _ _ (call (Value.builtin "str.join") _ _) _ _ _ | show wpAny _ _ (call (Value.ref _) _ _) _ _ _ | show wpAny _ _ (exec (Stmt.While _ _ _ _) _) _ _ _ | show wpAny _ _ (binaryOp Operator.LShift _ _) _ _ _ | show wpAny _ _ (binaryOp Operator.Mult _ _) _ _ _ | show wpAny _ _ (binaryOp Operator.Pow _ _) _ _ _ | show wpAny _ _ (eval (Expr.ListComp _ _ _ _) _) _ _ _ | show wpAny _ _ (exec (Stmt.Assign _ (Expr.ListComp _ _ _ _) _) _) _ _ _ | show wpAny _ _ (call (Value.type "int") _ _) _ _ _ | show wpAny _ _ (exec (Stmt.FunctionDef _ _ _ _ _ _ _ _ _ _) _) _ _ _ | show wpAny _ _ (subscriptTail _ _ (Value.ref _) _) _ _ _ | show wpAny _ _ (storeName _ _ _) _ _ _))); first | (k_end; wrow_close) | walk1 | (dsimp only; walk1) | (leave1; walk_say "STEP leave1"; try dsimp only) | fail "no step")))
  refine wpC_execs_consA ?_
  refine nestDef_K rfl rfl rfl ?_
  rw [qual_in (by rfl) (by rfl)]
  refine nest_either F2 N2 l1 T' (C.keeps B'.stays) rfl H rfl rfl rfl ?_
  intro f c' newsX ctv doc h3 tk3 F3 N3 TT l3 lX
  have AX : FourX L' newsX := ⟨lX⟩
  (repeat' (first | (k_unfold; (try dsimp only)) | ((fail_if_success (with_reducible (first | show InvEndN _ _ _ _ _ _ _ | show KswEnd _ _ _ _ _ _ _ _ _ _ _ _ | show WdEnd _ _ _ _ _ _ _ _ _ _ _ | show SrcStep _ _ _ _ _ _ _ _ _ _ _ _ _ _ | show LCg.CompEnd _ _ _ _ _ _ _ _ _ _ _ _ _ _ | show wpAny _ _ (pyIter _) _ _ _ | show wpAny _ _ (call (Value.builtin "str.join") _ _) _ _ _ | show wpAny _ _ (call (Value.ref _) _ _) _ _ _ | show wpAny _ _ (exec (Stmt.While _ _ _ _) _) _ _ _ | show wpAny _ _ (binaryOp Operator.LShift _ _) _ _ _ | show wpAny _ _ (binaryOp Operator.Mult _ _) _ _ _ | show wpAny _ _ (binaryOp Operator.Pow _ _) _ _ _ | show wpAny _ _ (eval (Expr.ListComp _ _ _ _) _) _ _ _ | show wpAny _ _ (exec (Stmt.Assign _ (Expr.ListComp _ _ _ _) _) _) _ _ _ | show wpAny _ _ (call (Value.type "int") _ _) _ _ _ | show wpAny _ _ (exec (Stmt.FunctionDef _ _ _ _ _ _ _ _ _ _) _) _ _ _ | show wpAny _ _ (subscriptTail _ _ (Value.ref _) _) _ _ _ | show wpAny _ _ (storeName _ _ _) _ _ _))); first | (k_end; wrow_close) | walk1 | (dsimp only; walk1) | (leave1; walk_say "STEP leave1"; try dsimp only) | fail "no step")))
  refine storeX_C F3 N3 (c := L' + 1 + 1 + 1) rfl (UpdF.tail (neN (by show ¬ @Eq Nat f (L' + 1 + 1 + 1); (first | lia | omega))) AX.u2) d2 ?_
  intro h4 oI F4 N4 dI
  (repeat' (first | (k_unfold; (try dsimp only)) | ((fail_if_success (with_reducible (first | show InvEndN _ _ _ _ _ _ _ | show KswEnd _ _ _ _ _ _ _ _ _ _ _ _ | show WdEnd _ _ _ _ _ _ _ _ _ _ _ | show SrcStep _ _ _ _ _ _ _ _ _ _ _ _ _ _ | show LCg.CompEnd _ _ _ _ _ _ _ _ _ _ _ _ _ _ | show wpAny _ _ (pyIter _) _ _ _ | show wpAny _ _ (call (Value.builtin "str.join") _ _) _ _ _ | show wpAny _ _ (call (Value.ref _) _ _) _ _ _ | show wpAny _ _ (exec (Stmt.While _ _ _ _) _) _ _ _ | show wpAny _ _ (binaryOp Operator.LShift _ _) _ _ _ | show wpAny _ _ (binaryOp Operator.Mult _ _) _ _ _ | show wpAny _ _ (binaryOp Operator.Pow _ _) _ _ _ | show wpAny _ _ (eval (Expr.ListComp _ _ _ _) _) _ _ _ | show wpAny _ _ (exec (Stmt.Assign _ (Expr.ListComp _ _ _ _) _) _) _ _ _ | show wpAny _ _ (call (Value.type "int") _ _) _ _ _ | show wpAny _ _ (exec (Stmt.FunctionDef _ _ _ _ _ _ _ _ _ _) _) _ _ _ | show wpAny _ _ (subscriptTail _ _ (Value.ref _) _) _ _ _ | show wpAny _ _ (storeName _ _ _) _ _ _))); first | (k_end; wrow_close) | walk1 | (dsimp only; walk1) | (leave1; walk_say "STEP leave1"; try dsimp only) | fail "no step")))
  refine wpC_execs_consA ?_
  (repeat' (first | (k_unfold; (try dsimp only)) | ((fail_if_success (with_reducible (first | show InvEndN _ _ _ _ _ _ _ | show KswEnd _ _ _ _ _ _ _ _ _ _ _ _ | show WdEnd _ _ _ _ _ _ _ _ _ _ _ | show SrcStep _ _ _ _ _ _ _ _ _ _ _ _ _ _ | show LCg.CompEnd _ _ _ _ _ _ _ _ _ _ _ _ _ _ | show wpAny _ _ (pyIter _) _ _ _ | show wpAny _ _ (call (Value.builtin "str.join") _ _) _ _ _ | show wpAny _ _ (call (Value.ref _) _ _) _ _ _ | show wpAny _ _ (exec (Stmt.While _ _ _ _) _) _ _ _ | show wpAny _ _ (binaryOp Operator.LShift _ _) _ _ _ | show wpAny _ _ (binaryOp Operator.Mult _ _) _ _ _ | show wpAny _ _ (binaryOp Operator.Pow _ _) _ _ _ | show wpAny _ _ (eval (Expr.ListComp _ _ _ _) _) _ _ _ | show wpAny _ _ (exec (Stmt.Assign _ (Expr.ListComp _ _ _ _) _) _) _ _ _ | show wpAny _ _ (call (Value.type "int") _ _) _ _ _ | show wpAny _ _ (exec (Stmt.FunctionDef _ _ _ _ _ _ _ _ _ _) _) _ _ _ | show wpAny _ _ (subscriptTail _ _ (Value.ref _) _) _ _ _ | show wpAny _ _ (storeName _ _ _) _ _ _))); first | (k_end; wrow_close) | walk1 | (dsimp only; walk1) | (leave1; walk_say "STEP leave1"; try dsimp only) | fail "no step")))
  refine c_powers (wv := (x.length : Int)) (mt := 2048) ⟨by (first | lia | omega), by (first | lia | omega), by (first | lia | omega)⟩ (.inr (by (first | lia | omega))) (by (first | lia | omega)) (by assumption) (by assumption) (by assumption) (by assumption) (by assumption) rfl (by ktr_room) (by ktr_units) ?_
  intro D od kvs ns h5 tk5 dr5 F5 N5 l5 hDm hod hP hns
  (repeat' (first | (k_unfold; (try dsimp only)) | ((fail_if_success (with_reducible (first | show InvEndN _ _ _ _ _ _ _ | show KswEnd _ _ _ _ _ _ _ _ _ _ _ _ | show WdEnd _ _ _ _ _ _ _ _ _ _ _ | show SrcStep _ _ _ _ _ _ _ _ _ _ _ _ _ _ | show LCg.CompEnd _ _ _ _ _ _ _ _ _ _ _ _ _ _ | show wpAny _ _ (pyIter _) _ _ _ | show wpAny _ _ (call (Value.builtin "str.join") _ _) _ _ _ | show wpAny _ _ (call (Value.ref _) _ _) _ _ _ | show wpAny _ _ (exec (Stmt.While _ _ _ _) _) _ _ _ | show wpAny _ _ (binaryOp Operator.LShift _ _) _ _ _ | show wpAny _ _ (binaryOp Operator.Mult _ _) _ _ _ | show wpAny _ _ (binaryOp Operator.Pow _ _) _ _ _ | show wpAny _ _ (eval (Expr.ListComp _ _ _ _) _) _ _ _ | show wpAny _ _ (exec (Stmt.Assign _ (Expr.ListComp _ _ _ _) _) _) _ _ _ | show wpAny _ _ (call (Value.type "int") _ _) _ _ _ | show wpAny _ _ (exec (Stmt.FunctionDef _ _ _ _ _ _ _ _ _ _) _) _ _ _ | show wpAny _ _ (subscriptTail _ _ (Value.ref _) _) _ _ _ | show wpAny _ _ (storeName _ _ _) _ _ _))); first | (k_end; wrow_close) | walk1 | (dsimp only; walk1) | (leave1; walk_say "STEP leave1"; try dsimp only) | fail "no step")))
  refine storeX_C F5 N5 (c := L' + 1 + 1 + 1 + 1) rfl (UpdF.tail (Nat.ne_of_gt (l5 _ (.tail _ (.head _)))) (UpdF.tail (neN (by show ¬ @Eq Nat f (L' + 1 + 1 + 1 + 1); (first | lia | omega))) AX.u1)) d1 ?_
  intro h6 oW F6 N6 dW
  (repeat' (first | (k_unfold; (try dsimp only)) | ((fail_if_success (with_reducible (first | show InvEndN _ _ _ _ _ _ _ | show KswEnd _ _ _ _ _ _ _ _ _ _ _ _ | show WdEnd _ _ _ _ _ _ _ _ _ _ _ | show SrcStep _ _ _ _ _ _ _ _ _ _ _ _ _ _ | show LCg.CompEnd _ _ _ _ _ _ _ _ _ _ _ _ _ _ | show wpAny _ _ (pyIter _) _ _ _ | show wpAny _ _ (call (Value.builtin "str.join") _ _) _ _ _ | show wpAny _ _ (call (Value.ref _) _ _) _ _ _ | show wpAny _ _ (exec (Stmt.While _ _ _ _) _) _ _ _ | show wpAny _ _ (binaryOp Operator.LShift _ _) _ _ _ | show wpAny _ _ (binaryOp Operator.Mult _ _) _ _ _ | show wpAny _ _ (binaryOp Operator.Pow _ _) _ _ _ | show wpAny _ _ (eval (Expr.ListComp _ _ _ _) _) _ _ _ | show wpAny _ _ (exec (Stmt.Assign _ (Expr.ListComp _ _ _ _) _) _) _ _ _ | show wpAny _ _ (call (Value.type "int") _ _) _ _ _ | show wpAny _ _ (exec (Stmt.FunctionDef _ _ _ _ _ _ _ _ _ _) _) _ _ _ | show wpAny _ _ (subscriptTail _ _ (Value.ref _) _) _ _ _ | show wpAny _ _ (storeName _ _ _) _ _ _))); first | (k_end; wrow_close) | walk1 | (dsimp only; walk1) | (leave1; walk_say "STEP leave1"; try dsimp only) | fail "no step")))
  obtain ⟨hX1, oc, vs, tq, hc, hcd, hcv⟩ := TT.hit
  have hxl : x.cps.toList.length = x.length := Array.length_toList
  have hwhole : (x.cps.toList.drop 0).take (x.length - 0) = x.cps.toList := by
    rw [List.drop_zero, Nat.sub_zero, List.take_of_length_le (by (first | lia | omega))]
  refine wpC_execs_cons (wpC_Return (wpC_Call ?_))
  (repeat' (first | (k_unfold; (try dsimp only)) | ((fail_if_success (with_reducible (first | show InvEndN _ _ _ _ _ _ _ | show KswEnd _ _ _ _ _ _ _ _ _ _ _ _ | show WdEnd _ _ _ _ _ _ _ _ _ _ _ | show SrcStep _ _ _ _ _ _ _ _ _ _ _ _ _ _ | show LCg.CompEnd _ _ _ _ _ _ _ _ _ _ _ _ _ _ | show wpAny _ _ (pyIter _) _ _ _ | show wpAny _ _ (call (Value.builtin "str.join") _ _) _ _ _ | show wpAny _ _ (call (Value.ref _) _ _) _ _ _ | show wpAny _ _ (exec (Stmt.While _ _ _ _) _) _ _ _ | show wpAny _ _ (binaryOp Operator.LShift _ _) _ _ _ | show wpAny _ _ (binaryOp Operator.Mult _ _) _ _ _ | show wpAny _ _ (binaryOp Operator.Pow _ _) _ _ _ | show wpAny _ _ (eval (Expr.ListComp _ _ _ _) _) _ _ _ | show wpAny _ _ (exec (Stmt.Assign _ (Expr.ListComp _ _ _ _) _) _) _ _ _ | show wpAny _ _ (call (Value.type "int") _ _) _ _ _ | show wpAny _ _ (exec (Stmt.FunctionDef _ _ _ _ _ _ _ _ _ _) _) _ _ _ | show wpAny _ _ (subscriptTail _ _ (Value.ref _) _) _ _ _ | show wpAny _ _ (storeName _ _ _) _ _ _))); first | (k_end; wrow_close) | walk1 | (dsimp only; walk1) | (leave1; walk_say "STEP leave1"; try dsimp only) | fail "no step")))
  refine wpC_callP (P := FnAt f) keeps_F ?_
  (repeat' (first | (k_unfold; (try dsimp only)) | ((fail_if_success (with_reducible (first | show InvEndN _ _ _ _ _ _ _ | show KswEnd _ _ _ _ _ _ _ _ _ _ _ _ | show WdEnd _ _ _ _ _ _ _ _ _ _ _ | show SrcStep _ _ _ _ _ _ _ _ _ _ _ _ _ _ | show LCg.CompEnd _ _ _ _ _ _ _ _ _ _ _ _ _ _ | show wpAny _ _ (pyIter _) _ _ _ | show wpAny _ _ (call (Value.builtin "str.join") _ _) _ _ _ | show wpAny _ _ (call (Value.ref _) _ _) _ _ _ | show wpAny _ _ (exec (Stmt.While _ _ _ _) _) _ _ _ | show wpAny _ _ (binaryOp Operator.LShift _ _) _ _ _ | show wpAny _ _ (binaryOp Operator.Mult _ _) _ _ _ | show wpAny _ _ (binaryOp Operator.Pow _ _) _ _ _ | show wpAny _ _ (eval (Expr.ListComp _ _ _ _) _) _ _ _ | show wpAny _ _ (exec (Stmt.Assign _ (Expr.ListComp _ _ _ _) _) _) _ _ _ | show wpAny _ _ (call (Value.type "int") _ _) _ _ _ | show wpAny _ _ (exec (Stmt.FunctionDef _ _ _ _ _ _ _ _ _ _) _) _ _ _ | show wpAny _ _ (subscriptTail _ _ (Value.ref _) _) _ _ _ | show wpAny _ _ (storeName _ _ _) _ _ _))); first | (k_end; wrow_close) | walk1 | (dsimp only; walk1) | (leave1; walk_say "STEP leave1"; try dsimp only) | fail "no step")))
  refine c_inner1_bad (i := 0) (j := x.length) (D := D) (x := x) rfl (.tail _ (.head _)) (.tail _ (.tail _ (.tail _ (.tail _ (.tail _ (.tail _ hc)))))) hcd hcv
    ⟨⟨oD, _, .tail _ (.tail _ (.tail _ (.tail _ (.head _)))), dD⟩, ⟨oI, .tail _ (.tail _ (.tail _ (.head _))), dI⟩, ⟨o4, _, .tail _ (.tail _ (.tail _ (.tail _ (.tail _ (.head _))))), d4⟩, ⟨oW, .tail _ (.tail _ (.head _)), dW⟩⟩
    (Nat.zero_le _) (Nat.le_refl _) (by (first | lia | omega)) (by (first | lia | omega)) (by rw [hwhole]; exact hdull) (by rw [hwhole]; exact hbad) (by assumption) (by assumption) (by assumption) (by assumption) (by assumption) rfl (by ktr_room) (by ktr_units) ?_
  intro e3 h7 tk7 dr7 ht
  refine left_on B' FG' ht rfl ?_
  intro h8 ht8
  exact hE _ _ _ _ _ _ TT (ht8.less fun q hq => .tail _ (.tail _ (.tail _ (.tail _ (.tail _ (.tail _ hq))))))

end
end Mine
end
section
theorem Mine.reset_C7 : True := by
  w_top off
  exact trivial
open PySem PySem.W PySem.NumText PyProof.Rows
set_option maxRecDepth 100000
set_option linter.unusedVariables false
namespace Mine
theorem fill_7 (w : World) (h : Heap) : Frag.In (Mine.Head.hd.heap_39 w.params) h → Challenge.rw_lo0013_01.row.prog = Challenge.rw_lo0013_01.row.prog := by
  k_fill
  intros; rfl
section
variable {w : World} {p : Program} {loose : List Str} {mean : ExcName → Option Value} {mg mb : Str → Option Value} {dp un : Nat} {gd : Option (List Code)} {cn : Str} {cs : Scope} {a : Addr} {ccd : Value} {cl : List (Str × Addr)} {outer : List Env} {A₀ : Around} {base h₀ : Heap} {L : Addr} {m : Str → Option Value} {news : List (Addr × Obj)} {s : Shared} {Q E : Value → Shared → Prop}


set_option maxHeartbeats 8000000 in
theorem c_ifs {y : PySem.Str} {ty : Tok} {c' : Addr} {body blanks : List Nat} (H : TabHit news c') (C : CodeHd base 28 24) (hy : sg y = body ++ blanks) (hyl : y.length ≤ 100000) (hA : ∀ c ∈ sg y, c < 128) (hb : ∀ c ∈ blanks, spc c = true) (hl : ∀ c, body.getLast? = some c → spc c = false)
    (h0 : 0 < (body.filter (· != 95)).length) (h1 : (body.filter (· != 95)).length ≤ 4095) (hdig : AllDigits (body.filter (· != 95)))
    (B : Below A₀ base outer h₀) (F : Fr h₀ L s.heap m) (X : Frag.In (Mine.Head.hd.heap_39 w.params) h₀) (N : News h₀ L s.heap news) (T : Top p loose mean mg mb h₀) (hk : cs.kind = .function) (hd : dp + 10 < recursionLimit) (hu : un + 70 < cLine)
    (hret : ∀ h' tk' dr' t', Fr h₀ L h' m → News h₀ L h' news → Q (.int (digitsVal (body.filter (· != 95)) : Nat) t') { s with heap := h', toks := tk', drawn := dr' }) :
    wpAny (model Challenge.rw_lo0013_01.row.prog w) (ktrTop dp un gd cn cs L a ccd cl outer) (call (.ref 36) [.str y ty]) Q E s := by
  refine wpAny_call ?_
  k_dflt (first   | (refine' code_def ?k1 ?k2 ?k3 ?k4 ?k5 ?kA ?kF ?kK ?k6 ?k7 ?k8 ?k9 ?kB ?_ ?c2 ?c3 ?c4 ?c5; (case kA => exact rfl); (case kF => exact rfl); (case kK => first | exact rfl | assumption); (case k1 => k_asm); (case k2 => k_asm); (case k3 => k_asm); (case k4 => k_asm); (case k5 => k_asm); (case k6 => k_is); (case k7 => k_is); (case k8 => ktr_room); (case k9 => first | exact BindsTo.of_eq rfl | exact binds_K (by k_in) rfl (by k_is) rfl rfl rfl); (case c5 => decide); (case kB => exact locs rfl); (case c2 => exact rfl); (case c3 => exact rfl); (case c4 => exact rfl); k_whole; intro g' L' h' FG' F' N' B' X' T'; (try dsimp only); (try k_lift B'); (try k_fold))   | (refine' code_defC ?k1 ?k2 ?k3 ?k4 ?k5 ?kA ?kF ?kK ?k6 ?k7 ?k8 ?k9 ?kB ?kD ?_ ?c2 ?c3 ?c4; (case kA => exact rfl); (case kF => exact rfl); (case kK => first | exact rfl | assumption); (case k1 => k_asm); (case k2 => k_asm); (case k3 => k_asm); (case k4 => k_asm); (case k5 => k_asm); (case k6 => k_is); (case k7 => k_is); (case k8 => ktr_room); (case k9 => first | exact BindsTo.of_eq rfl | exact binds_K (by k_in) rfl (by k_is) rfl rfl rfl); (case kB => exact rfl); (case kD => decide +kernel); (case c2 => exact rfl); (case c3 => exact rfl); (case c4 => exact rfl); k_whole; intro g' L' h' tk' cells' FG' F' N' Y' B' X' T' l1; (try k_lt l1); k_cells Y'; (try simp only [List.cons_append, List.nil_append] at N'); (try dsimp only); (try k_lift B'); (try k_fold)))
  show wpAny _ _ _ _ _ { heap := _, gens := s.gens, drawn := s.drawn, toks := s.toks + 1, os := s.os }
  have htk : 0 < s.toks + 1 := Nat.succ_pos _
  generalize s.toks + 1 = tk0 at htk ⊢
  (repeat' (first | (k_unfold; (try dsimp only)) | ((fail_if_success (with_reducible (first | show InvEndN _ _ _ _ _ _ _ | show KswEnd _ _ _ _ _ _ _ _ _ _ _ _ | show WdEnd _ _ _ _ _ _ _ _ _ _ _ | show SrcStep _ _ _ _ _ _ _ _ _ _ _ _ _ _ | show LCg.CompEnd _ _ _ _ _ _ _ _ _ _ _ _ _ _ | show wpAny _ _ (pyIter _) _ _ _ | show wpAny _ _ (call (Value.builtin "str.join") _ _) _ _ _ | show wpAny _ _ (call (Value.ref _) _ _) _ _ _ | show wpAny _ _ (exec (Stmt.While _ _ _ _) _) _ _ _ | show wpAny _ _ (binaryOp Operator.LShift _ _) _ _ _ | show wpAny _ _ (binaryOp Operator.Mult _ _) _ _ _ | show wpAny _ _ (binaryOp Operator.Pow _ _) _ _ _ | show wpAny _ _ (eval (Expr.ListComp _ _ _ _) _) _ _ _ | show wpAny _ _ (exec (Stmt.Assign _ (Expr.ListComp _ _ _ _) _) _) _ _ _ | show wpAny _ _ (call (Value.builtin "str.rstrip") _ _) _ _ _ | show wpAny _ _ (call (Value.builtin "str.replace") _ _) _ _ _))); first | (k_end; wrow_close) | walk1 | (dsimp only; walk1) | (leave1; walk_say "STEP leave1"; try dsimp only) | fail "no step")))
  refine rstrip_tok ?_ (by rw [sizeLine_eq]; (first | lia | omega))
  intro t2 k2 hk2
  have hr : sg (Txt.rstrip y) = body := rstrip_text hy hA hb hl
  (repeat' (first | (k_unfold; (try dsimp only)) | ((fail_if_success (with_reducible (first | show InvEndN _ _ _ _ _ _ _ | show KswEnd _ _ _ _ _ _ _ _ _ _ _ _ | show WdEnd _ _ _ _ _ _ _ _ _ _ _ | show SrcStep _ _ _ _ _ _ _ _ _ _ _ _ _ _ | show LCg.CompEnd _ _ _ _ _ _ _ _ _ _ _ _ _ _ | show wpAny _ _ (pyIter _) _ _ _ | show wpAny _ _ (call (Value.builtin "str.join") _ _) _ _ _ | show wpAny _ _ (call (Value.ref _) _ _) _ _ _ | show wpAny _ _ (exec (Stmt.While _ _ _ _) _) _ _ _ | show wpAny _ _ (binaryOp Operator.LShift _ _) _ _ _ | show wpAny _ _ (binaryOp Operator.Mult _ _) _ _ _ | show wpAny _ _ (binaryOp Operator.Pow _ _) _ _ _ | show wpAny _ _ (eval (Expr.ListComp _ _ _ _) _) _ _ _ | show wpAny _ _ (exec (Stmt.Assign _ (Expr.ListComp _ _ _ _) _) _) _ _ _ | show wpAny _ _ (call (Value.builtin "str.rstrip") _ _) _ _ _ | show wpAny _ _ (call (Value.builtin "str.replace") _ _) _ _ _))); first | (k_end; wrow_close) | walk1 | (dsimp only; walk1) | (leave1; walk_say "STEP leave1"; try dsimp only) | fail "no step")))
  have hx : sg (Txt.replace (Txt.rstrip y) (PySem.Str.ofString "_") (PySem.Str.ofString "")) = body.filter (· != 95) := by rw [strike_text, hr]
  dsimp only at hk2
  have hrl : (Txt.rstrip y).length ≤ y.length := len_rstrip y
  refine SC.replaceW (Nat.ne_of_gt (Nat.lt_of_lt_of_le htk hk2)) (Nat.succ_ne_zero _) (Nat.ne_of_lt (Nat.lt_succ_self _)) (by decide) (by (first | lia | omega)) (by decide) ?_
  intro t3 k3
  (repeat' (first | (k_unfold; (try dsimp only)) | ((fail_if_success (with_reducible (first | show InvEndN _ _ _ _ _ _ _ | show KswEnd _ _ _ _ _ _ _ _ _ _ _ _ | show WdEnd _ _ _ _ _ _ _ _ _ _ _ | show SrcStep _ _ _ _ _ _ _ _ _ _ _ _ _ _ | show LCg.CompEnd _ _ _ _ _ _ _ _ _ _ _ _ _ _ | show wpAny _ _ (pyIter _) _ _ _ | show wpAny _ _ (call (Value.builtin "str.join") _ _) _ _ _ | show wpAny _ _ (call (Value.ref _) _ _) _ _ _ | show wpAny _ _ (exec (Stmt.While _ _ _ _) _) _ _ _ | show wpAny _ _ (binaryOp Operator.LShift _ _) _ _ _ | show wpAny _ _ (binaryOp Operator.Mult _ _) _ _ _ | show wpAny _ _ (binaryOp Operator.Pow _ _) _ _ _ | show wpAny _ _ (eval (Expr.ListComp _ _ _ _) _) _ _ _ | show wpAny _ _ (exec (Stmt.Assign _ (Expr.ListComp _ _ _ _) _) _) _ _ _ | show wpAny _ _ (call (Value.builtin "str.rstrip") _ _) _ _ _ | show wpAny _ _ (call (Value.builtin "str.replace") _ _) _ _ _))); first | (k_end; wrow_close) | walk1 | (dsimp only; walk1) | (leave1; walk_say "STEP leave1"; try dsimp only) | fail "no step")))
  have hxl : (sg (Txt.replace (Txt.rstrip y) (PySem.Str.ofString "_") (PySem.Str.ofString ""))).length = (Txt.replace (Txt.rstrip y) (PySem.Str.ofString "_") (PySem.Str.ofString "")).length := sg_len _
  rw [hx] at hxl
  refine c_s2i H C (by (first | lia | omega)) (by (first | lia | omega)) (by rw [show (Txt.replace (Txt.rstrip y) (PySem.Str.ofString "_") (PySem.Str.ofString "")).cps.toList = _ from hx]; exact hdig) (by assumption) (by assumption) (by assumption) (by assumption) (by assumption) rfl (by ktr_room) (by ktr_units) ?_
  intro h4 tk4 dr4 t4 F4 N4
  rw [show (Txt.replace (Txt.rstrip y) (PySem.Str.ofString "_") (PySem.Str.ofString "")).cps.toList = _ from hx]
  (repeat' (first | (k_unfold; (try dsimp only)) | ((fail_if_success (with_reducible (first | show InvEndN _ _ _ _ _ _ _ | show KswEnd _ _ _ _ _ _ _ _ _ _ _ _ | show WdEnd _ _ _ _ _ _ _ _ _ _ _ | show SrcStep _ _ _ _ _ _ _ _ _ _ _ _ _ _ | show LCg.CompEnd _ _ _ _ _ _ _ _ _ _ _ _ _ _ | show wpAny _ _ (pyIter _) _ _ _ | show wpAny _ _ (call (Value.builtin "str.join") _ _) _ _ _ | show wpAny _ _ (call (Value.ref _) _ _) _ _ _ | show wpAny _ _ (exec (Stmt.While _ _ _ _) _) _ _ _ | show wpAny _ _ (binaryOp Operator.LShift _ _) _ _ _ | show wpAny _ _ (binaryOp Operator.Mult _ _) _ _ _ | show wpAny _ _ (binaryOp Operator.Pow _ _) _ _ _ | show wpAny _ _ (eval (Expr.ListComp _ _ _ _) _) _ _ _ | show wpAny _ _ (exec (Stmt.Assign _ (Expr.ListComp _ _ _ _) _) _) _ _ _ | show wpAny _ _ (call (Value.builtin "str.rstrip") _ _) _ _ _ | show wpAny _ _ (call (Value.builtin "str.replace") _ _) _ _ _))); first | (k_end; wrow_close) | walk1 | (dsimp only; walk1) | (leave1; walk_say "STEP leave1"; try dsimp only) | fail "no step")))
  exact hret _ _ _ _ (by assumption) (by assumption)

theorem reset_C11 : True := by
  w_top off
  exact trivial
set_option maxHeartbeats 8000000 in
theorem c_ifs_bad {y : PySem.Str} {ty : Tok} {body blanks : List Nat} (H : Tab0 news) (C : CodeHd base 28 24) (hy : sg y = body ++ blanks) (hyl : y.length ≤ 100000) (hA : ∀ c ∈ sg y, c < 128) (hb : ∀ c ∈ blanks, spc c = true) (hl : ∀ c, body.getLast? = some c → spc c = false)
    (h1 : (body.filter (· != 95)).length ≤ 4095) (hdull : Dull (body.filter (· != 95))) (hbad : body.filter (· != 95) = [] ∨ ∃ c ∈ body.filter (· != 95), Foreign c)
    (B : Below A₀ base outer h₀) (F : Fr h₀ L s.heap m) (X : Frag.In (Mine.Head.hd.heap_39 w.params) h₀) (N : News h₀ L s.heap news) (T : Top p loose mean mg mb h₀) (hk : cs.kind = .function) (hd : dp + 10 < recursionLimit) (hu : un + 70 < cLine)
    (hE : ∀ e h' tk' dr' c' newsX, TabTo news newsX c' → Thrown base h₀ L m (envX cn cs L a ccd cl :: outer) newsX e h' → E e { s with heap := h', toks := tk', drawn := dr' }) :
    wpC (model Challenge.rw_lo0013_01.row.prog w) (ktrTop dp un gd cn cs L a ccd cl outer) (call (.ref 36) [.str y ty]) Q E s := by
  refine wpC_call ?_
  k_dflt (refine' defC ?k1 ?k2 ?k3 ?k4 ?k5 ?kA ?kF ?kK ?k6 ?k7 ?k8 ?k9 ?kB ?_ ?c2 ?c3 ?c4 ?c5; (case kA => exact rfl); (case kF => exact rfl); (case kK => first | exact rfl | assumption); (case k1 => exact B); (case k2 => exact F); (case k3 => exact X); (case k4 => exact N); (case k5 => exact T); (case k6 => k_is); (case k7 => k_is); (case k8 => ktr_room); (case k9 => exact BindsTo.of_eq rfl); (case kB => exact locs rfl); (case c2 => exact rfl); (case c3 => exact rfl); (case c4 => exact rfl); (case c5 => decide); k_whole)
  intro g' L' h' FG' F' N' B' X' T'
  dsimp only
  show wpC _ _ _ _ _ { heap := _, gens := s.gens, drawn := s.drawn, toks := s.toks + 1, os := s.os }
  have htk : 0 < s.toks + 1 := Nat.succ_pos _
  generalize s.toks + 1 = tk0 at htk ⊢
  refine wpC_execs_consA ?_
  (repeat' (first | (k_unfold; (try dsimp only)) | ((fail_if_success (with_reducible (first | show InvEndN _ _ _ _ _ _ _ | show KswEnd _ _ _ _ _ _ _ _ _ _ _ _ | show WdEnd _ _ _ _ _ _ _ _ _ _ _ | show SrcStep _ _ _ _ _ _ _ _ _ _ _ _ _ _ | show LCg.CompEnd _ _ _ _ _ _ _ _ _ _ _ _ _ _ | show wpAny _ _ (pyIter _) _ _ _ | show wpAny _ _ (call (Value.builtin "str.join") _ _) _ _ _ | show wpAny _ _ (call (Value.ref _) _ _) _ _ _ | show wpAny _ _ (exec (Stmt.While _ _ _ _) _) _ _ _ | show wpAny _ _ (binaryOp Operator.LShift _ _) _ _ _ | show wpAny _ _ (binaryOp Operator.Mult _ _) _ _ _ | show wpAny _ _ (binaryOp Operator.Pow _ _) _ _ _ | show wpAny _ _ (eval (Expr.ListComp _ _ _ _) _) _ _ _ | show wpAny _ _ (exec (Stmt.Assign _ (Expr.ListComp _ _ _ _) _) _) _ _ _ | show wpAny _ _ (call (Value.builtin "str.rstrip") _ _) _ _ _ | show wpAny _ _ (call (Value.builtin "str.replace") _ _) _ _ _))); first | (k_end; wrow_close) | walk1 | (dsimp only; walk1) | (leave1; walk_say "STEP leave1"; try dsimp only) | fail "no step")))
  refine rstrip_tok ?_ (by rw [sizeLine_eq]; (first | lia | omega))
  intro t2 k2 hk2
  have hr : sg (Txt.rstrip y) = body := rstrip_text hy hA hb hl
  (repeat' (first | (k_unfold; (try dsimp only)) | ((fail_if_success (with_reducible (first | show InvEndN _ _ _ _ _ _ _ | show KswEnd _ _ _ _ _ _ _ _ _ _ _ _ | show WdEnd _ _ _ _ _ _ _ _ _ _ _ | show SrcStep _ _ _ _ _ _ _ _ _ _ _ _ _ _ | show LCg.CompEnd _ _ _ _ _ _ _ _ _ _ _ _ _ _ | show wpAny _ _ (pyIter _) _ _ _ | show wpAny _ _ (call (Value.builtin "str.join") _ _) _ _ _ | show wpAny _ _ (call (Value.ref _) _ _) _ _ _ | show wpAny _ _ (exec (Stmt.While _ _ _ _) _) _ _ _ | show wpAny _ _ (binaryOp Operator.LShift _ _) _ _ _ | show wpAny _ _ (binaryOp Operator.Mult _ _) _ _ _ | show wpAny _ _ (binaryOp Operator.Pow _ _) _ _ _ | show wpAny _ _ (eval (Expr.ListComp _ _ _ _) _) _ _ _ | show wpAny _ _ (exec (Stmt.Assign _ (Expr.ListComp _ _ _ _) _) _) _ _ _ | show wpAny _ _ (call (Value.builtin "str.rstrip") _ _) _ _ _ | show wpAny _ _ (call (Value.builtin "str.replace") _ _) _ _ _))); first | (k_end; wrow_close) | walk1 | (dsimp only; walk1) | (leave1; walk_say "STEP leave1"; try dsimp only) | fail "no step")))
  have hx : sg (Txt.replace (Txt.rstrip y) (PySem.Str.ofString "_") (PySem.Str.ofString "")) = body.filter (· != 95) := by rw [strike_text, hr]
  dsimp only at hk2
  have hrl : (Txt.rstrip y).length ≤ y.length := len_rstrip y
  refine SC.replaceW (Nat.ne_of_gt (Nat.lt_of_lt_of_le htk hk2)) (Nat.succ_ne_zero _) (Nat.ne_of_lt (Nat.lt_succ_self _)) (by decide) (by (first | lia | omega)) (by decide) ?_
  intro t3 k3
  (repeat' (first | (k_unfold; (try dsimp only)) | ((fail_if_success (with_reducible (first | show InvEndN _ _ _ _ _ _ _ | show KswEnd _ _ _ _ _ _ _ _ _ _ _ _ | show WdEnd _ _ _ _ _ _ _ _ _ _ _ | show SrcStep _ _ _ _ _ _ _ _ _ _ _ _ _ _ | show LCg.CompEnd _ _ _ _ _ _ _ _ _ _ _ _ _ _ | show wpAny _ _ (pyIter _) _ _ _ | show wpAny _ _ (call (Value.builtin "str.join") _ _) _ _ _ | show wpAny _ _ (call (Value.ref _) _ _) _ _ _ | show wpAny _ _ (exec (Stmt.While _ _ _ _) _) _ _ _ | show wpAny _ _ (binaryOp Operator.LShift _ _) _ _ _ | show wpAny _ _ (binaryOp Operator.Mult _ _) _ _ _ | show wpAny _ _ (binaryOp Operator.Pow _ _) _ _ _ | show wpAny _ _ (eval (Expr.ListComp _ _ _ _) _) _ _ _ | show wpAny _ _ (exec (Stmt.Assign _ (Expr.ListComp _ _ _ _) _) _) _ _ _ | show wpAny _ _ (call (Value.builtin "str.rstrip") _ _) _ _ _ | show wpAny _ _ (call (Value.builtin "str.replace") _ _) _ _ _))); first | (k_end; wrow_close) | walk1 | (dsimp only; walk1) | (leave1; walk_say "STEP leave1"; try dsimp only) | fail "no step")))
  have hxl : (sg (Txt.replace (Txt.rstrip y) (PySem.Str.ofString "_") (PySem.Str.ofString ""))).length = (Txt.replace (Txt.rstrip y) (PySem.Str.ofString "_") (PySem.Str.ofString "")).length := sg_len _
  rw [hx] at hxl
  refine wpC_execs_cons (wpC_Return (wpC_Call ?_))
  (repeat' (first | (k_unfold; (try dsimp only)) | ((fail_if_success (with_reducible (first | show InvEndN _ _ _ _ _ _ _ | show KswEnd _ _ _ _ _ _ _ _ _ _ _ _ | show WdEnd _ _ _ _ _ _ _ _ _ _ _ | show SrcStep _ _ _ _ _ _ _ _ _ _ _ _ _ _ | show LCg.CompEnd _ _ _ _ _ _ _ _ _ _ _ _ _ _ | show wpAny _ _ (pyIter _) _ _ _ | show wpAny _ _ (call (Value.builtin "str.join") _ _) _ _ _ | show wpAny _ _ (call (Value.ref _) _ _) _ _ _ | show wpAny _ _ (exec (Stmt.While _ _ _ _) _) _ _ _ | show wpAny _ _ (binaryOp Operator.LShift _ _) _ _ _ | show wpAny _ _ (binaryOp Operator.Mult _ _) _ _ _ | show wpAny _ _ (binaryOp Operator.Pow _ _) _ _ _ | show wpAny _ _ (eval (Expr.ListComp _ _ _ _) _) _ _ _ | show wpAny _ _ (exec (Stmt.Assign _ (Expr.ListComp _ _ _ _) _) _) _ _ _ | show wpAny _ _ (call (Value.builtin "str.rstrip") _ _) _ _ _ | show wpAny _ _ (call (Value.builtin "str.replace") _ _) _ _ _))); first | (k_end; wrow_close) | walk1 | (dsimp only; walk1) | (leave1; walk_say "STEP leave1"; try dsimp only) | fail "no step")))
  refine wpC_callP (P := Frag.In (Mine.Head.hd.heap_39 w.params)) (keeps_K (by k_is)) ?_
  (repeat' (first | (k_unfold; (try dsimp only)) | ((fail_if_success (with_reducible (first | show InvEndN _ _ _ _ _ _ _ | show KswEnd _ _ _ _ _ _ _ _ _ _ _ _ | show WdEnd _ _ _ _ _ _ _ _ _ _ _ | show SrcStep _ _ _ _ _ _ _ _ _ _ _ _ _ _ | show LCg.CompEnd _ _ _ _ _ _ _ _ _ _ _ _ _ _ | show wpAny _ _ (pyIter _) _ _ _ | show wpAny _ _ (call (Value.builtin "str.join") _ _) _ _ _ | show wpAny _ _ (call (Value.ref _) _ _) _ _ _ | show wpAny _ _ (exec (Stmt.While _ _ _ _) _) _ _ _ | show wpAny _ _ (binaryOp Operator.LShift _ _) _ _ _ | show wpAny _ _ (binaryOp Operator.Mult _ _) _ _ _ | show wpAny _ _ (binaryOp Operator.Pow _ _) _ _ _ | show wpAny _ _ (eval (Expr.ListComp _ _ _ _) _) _ _ _ | show wpAny _ _ (exec (Stmt.Assign _ (Expr.ListComp _ _ _ _) _) _) _ _ _ | show wpAny _ _ (call (Value.builtin "str.rstrip") _ _) _ _ _ | show wpAny _ _ (call (Value.builtin "str.replace") _ _) _ _ _))); first | (k_end; wrow_close) | walk1 | (dsimp only; walk1) | (leave1; walk_say "STEP leave1"; try dsimp only) | fail "no step")))
  refine c_s2i_bad H C (by (first | lia | omega)) (by rw [show (Txt.replace (Txt.rstrip y) (PySem.Str.ofString "_") (PySem.Str.ofString "")).cps.toList = _ from hx]; exact hdull) (by rw [show (Txt.replace (Txt.rstrip y) (PySem.Str.ofString "_") (PySem.Str.ofString "")).cps.toList = _ from hx]; exact hbad) (by assumption) (by assumption) (by assumption) (by assumption) (by assumption) rfl (by ktr_room) (by ktr_units) ?_
  intro e3 h7 tk7 dr7 c' newsX TT ht
  refine left_on B' FG' ht rfl ?_
  intro h8 ht8
  exact hE _ _ _ _ _ _ TT ht8

end
end Mine
end
section
theorem Mine.reset_C8 : True := by
  w_top off
  exact trivial
open PySem PySem.W PySem.NumText PyProof.Rows
set_option maxRecDepth 100000
set_option linter.unusedVariables false
namespace Mine
theorem fill_8 (w : World) (h : Heap) : Frag.In (Mine.Head.hd.heap_39 w.params) h → Challenge.rw_lo0013_01.row.prog = Challenge.rw_lo0013_01.row.prog := by
  k_fill
  intros; rfl
section
variable {w : World} {p : Program} {loose : List Str} {mean : ExcName → Option Value} {mg mb : Str → Option Value} {dp un : Nat} {gd : Option (List Code)} {cn : Str} {cs : Scope} {a : Addr} {ccd : Value} {cl : List (Str × Addr)} {outer : List Env} {A₀ : Around} {base h₀ : Heap} {L : Addr} {m : Str → Option Value} {news : List (Addr × Obj)} {s : Shared} {Q E : Value → Shared → Prop}

/-- two cells above a ledger -/
theorem upd_two {L : Addr} {news : List (Addr × Obj)} {o1 o2 : Obj} (h : ∀ p ∈ news, p.1 < L) : UpdF (L + 1 + 1) o1 ((L + 1 + 1, o1) :: (L + 1, o2) :: news) (fun o => (L + 1 + 1, o) :: (L + 1, o2) :: news) := by
  refine UpdF.head fun p hp => ne_of_ltN ?_
  rcases List.mem_cons.mp hp with rfl | hp
  · exact Nat.lt_succ_self _
  · have : @LT.lt Nat _ p.1 L := h p hp
    show @LT.lt Nat _ p.1 (L + 1 + 1); (first | lia | omega)
theorem small_up {len e : Nat} (h1 : len ≤ 100000) (h2 : 1 ≤ e) (h3 : e ≤ 1000) : Builtin.Range.small 0 (len : Int) (e : Int) = true := by
  unfold Builtin.Range.small
  rw [partN_is h2]
  have := partN_le (len := len) h2
  simp only [Builtin.Range.rangeFitsLong, Bool.and_eq_true, Bool.or_eq_true, decide_eq_true_eq, beq_iff_eq]
  rw [if_pos (show ((e : Nat) : Int) > 0 by (first | lia | omega))]
  simp only [Bool.and_eq_true, decide_eq_true_eq]
  (first | lia | omega)
theorem TabHit.more {news news' : List (Addr × Obj)} {c' : Addr} (h : TabHit news c') (hs : ∀ q ∈ news, q ∈ news') : TabHit news' c' :=
  ⟨hs _ h.tab, let ⟨oc, vs, t, a, b, c⟩ := h.code; ⟨oc, vs, t, hs _ a, b, c⟩⟩
theorem blank_part : ∀ r : Fin 7, ((sg (Txt.slice (PySem.Str.ofString " \t\n\x0d\x0b\x0c") none (some ((r.1 : Nat) : Int)))).all fun c => spc c && decide (c < 128)) = true ∧ (Txt.slice (PySem.Str.ofString " \t\n\x0d\x0b\x0c") none (some ((r.1 : Nat) : Int))).length ≤ 6 := by decide +kernel
theorem not_blank {c : Nat} (h : c = 95 ∨ (48 ≤ c ∧ c ≤ 57)) : spc c = false := by
  unfold spc
  rcases h with rfl | ⟨h1, h2⟩
  · decide
  · rw [decide_eq_false (show ¬ c ≤ 13 by (first | lia | omega)), decide_eq_false (show ¬ c ≤ 32 by (first | lia | omega))]; simp
theorem TabHit.cons {news : List (Addr × Obj)} {c' : Addr} {q : Addr × Obj} (h : TabHit news c') : TabHit (q :: news) c' := h.more fun _ hq => .tail _ hq
theorem flat_len : ∀ ts : List PySem.Str, (ts.flatMap sg).length = (ts.map fun x => x.length).sum
  | [] => rfl
  | x :: r => by rw [List.flatMap_cons, List.length_append, flat_len r, sg_len]; rfl
set_option maxHeartbeats 8000000 in
theorem c_agree {n : Nat} {x : PySem.Str} {z : Int} {t1 t2 t3 : Tok} {c' : Addr} (H : TabHit news c') (C : CodeHd base 28 24) (hx0 : 0 < x.length) (hx : x.length ≤ 3000) (hdig : AllDigits (sg x)) (hval : digitsVal (sg x) = n)
    (B : Below A₀ base outer h₀) (F : Fr h₀ L s.heap m) (X : Frag.In (Mine.Head.hd.heap_39 w.params) h₀) (N : News h₀ L s.heap news) (T : Top p loose mean mg mb h₀) (hk : cs.kind = .function) (hd : dp + 12 < recursionLimit) (hu : un + 80 < cLine)
    (hret : ∀ h' tk' dr', Fr h₀ L h' m → News h₀ L h' news → Q (.bool true) { s with heap := h', toks := tk', drawn := dr' }) :
    wpAny (model Challenge.rw_lo0013_01.row.prog w) (ktrTop dp un gd cn cs L a ccd cl outer) (call (.ref 67) [.int ((n : Nat) : Int) t1, .str x t2, .int z t3]) Q E s := by
  refine wpAny_call ?_
  k_dflt (refine' code_defC ?k1 ?k2 ?k3 ?k4 ?k5 ?kA ?kF ?kK ?k6 ?k7 ?k8 ?k9 ?kB ?kD ?_ ?c2 ?c3 ?c4; (case kA => exact rfl); (case kF => exact rfl); (case kK => first | exact rfl | assumption); (case k1 => exact B); (case k2 => exact F); (case k3 => exact X); (case k4 => exact N); (case k5 => exact T); (case k6 => k_is); (case k7 => k_is); (case k8 => ktr_room); (case k9 => exact BindsTo.of_eq rfl); (case kB => exact rfl); (case kD => decide +kernel); (case c2 => exact rfl); (case c3 => exact rfl); (case c4 => exact rfl); k_whole)
  intro g' L' h' tk' cells' FG' F' N' Y' B' X' T' l1
  obtain ⟨o1, o2, rfl, d1, d2⟩ := CellsAre.two Y'
  simp only [List.cons_append, List.nil_append] at N'
  dsimp only
  replace d1 : o1.data = .cell none := d1
  replace d2 : o2.data = .cell (some (.str x t2)) := d2
  clear Y'
  (repeat' (first | (k_unfold; (try dsimp only)) | ((fail_if_success (with_reducible (first | show InvEndN _ _ _ _ _ _ _ | show KswEnd _ _ _ _ _ _ _ _ _ _ _ _ | show WdEnd _ _ _ _ _ _ _ _ _ _ _ | show SrcStep _ _ _ _ _ _ _ _ _ _ _ _ _ _ | show LCg.CompEnd _ _ _ _ _ _ _ _ _ _ _ _ _ _ | show wpAny _ _ (pyIter _) _ _ _ | show wpAny _ _ (call (Value.builtin "str.join") _ _) _ _ _ | show wpAny _ _ (call (Value.ref _) _ _) _ _ _ | show wpAny _ _ (exec (Stmt.While _ _ _ _) _) _ _ _ | show wpAny _ _ (binaryOp Operator.LShift _ _) _ _ _ | show wpAny _ _ (binaryOp Operator.Mult _ _) _ _ _ | show wpAny _ _ (binaryOp Operator.Pow _ _) _ _ _ | show wpAny _ _ (eval (Expr.ListComp _ _ _ _) _) _ _ _ | show wpAny _ _ (exec (Stmt.Assign _ (Expr.ListComp _ _ _ _) _) _) _ _ _ | show wpAny _ _ (storeName _ (Str.ofString "every") _) _ _ _ | show wpAny _ _ (binaryOp Operator.Add (Value.str _ _) (Value.str _ _)) _ _ _))); first | (k_end; wrow_close) | walk1 | (dsimp only; walk1) | (leave1; walk_say "STEP leave1"; try dsimp only) | fail "no step")))
  obtain ⟨e, he, he1, he2⟩ : ∃ e : Nat, 3 + z.fmod 40 = (e : Int) ∧ 3 ≤ e ∧ e ≤ 42 := by
    have h1 := Int.fmod_nonneg_of_pos z (b := 40) (by decide)
    have h2 := Int.fmod_lt_of_pos z (b := 40) (by decide)
    exact ⟨(3 + z.fmod 40).toNat, by (first | lia | omega), by (first | lia | omega), by (first | lia | omega)⟩
  rw [he]
  refine storeX_C F' N' (c := L' + 1 + 1) rfl (upd_two l1) d1 ?_
  intro h2 oE F2 N2 dE
  (repeat' (first | (k_unfold; (try dsimp only)) | ((fail_if_success (with_reducible (first | show InvEndN _ _ _ _ _ _ _ | show KswEnd _ _ _ _ _ _ _ _ _ _ _ _ | show WdEnd _ _ _ _ _ _ _ _ _ _ _ | show SrcStep _ _ _ _ _ _ _ _ _ _ _ _ _ _ | show LCg.CompEnd _ _ _ _ _ _ _ _ _ _ _ _ _ _ | show wpAny _ _ (pyIter _) _ _ _ | show wpAny _ _ (call (Value.builtin "str.join") _ _) _ _ _ | show wpAny _ _ (call (Value.ref _) _ _) _ _ _ | show wpAny _ _ (exec (Stmt.While _ _ _ _) _) _ _ _ | show wpAny _ _ (binaryOp Operator.LShift _ _) _ _ _ | show wpAny _ _ (binaryOp Operator.Mult _ _) _ _ _ | show wpAny _ _ (binaryOp Operator.Pow _ _) _ _ _ | show wpAny _ _ (eval (Expr.ListComp _ _ _ _) _) _ _ _ | show wpAny _ _ (exec (Stmt.Assign _ (Expr.ListComp _ _ _ _) _) _) _ _ _ | show wpAny _ _ (storeName _ (Str.ofString "every") _) _ _ _ | show wpAny _ _ (binaryOp Operator.Add (Value.str _ _) (Value.str _ _)) _ _ _))); first | (k_end; wrow_close) | walk1 | (dsimp only; walk1) | (leave1; walk_say "STEP leave1"; try dsimp only) | fail "no step")))
  refine ListComp_step (by assumption) (by with_unfolding_all rfl) (by decide) (by rfl) (by decide) (by rfl) ?_
  (repeat' (first | (k_unfold; (try dsimp only)) | ((fail_if_success (with_reducible (first | show InvEndN _ _ _ _ _ _ _ | show KswEnd _ _ _ _ _ _ _ _ _ _ _ _ | show WdEnd _ _ _ _ _ _ _ _ _ _ _ | show SrcStep _ _ _ _ _ _ _ _ _ _ _ _ _ _ | show LCg.CompEnd _ _ _ _ _ _ _ _ _ _ _ _ _ _ | show wpAny _ _ (pyIter _) _ _ _ | show wpAny _ _ (call (Value.builtin "str.join") _ _) _ _ _ | show wpAny _ _ (call (Value.ref _) _ _) _ _ _ | show wpAny _ _ (exec (Stmt.While _ _ _ _) _) _ _ _ | show wpAny _ _ (binaryOp Operator.LShift _ _) _ _ _ | show wpAny _ _ (binaryOp Operator.Mult _ _) _ _ _ | show wpAny _ _ (binaryOp Operator.Pow _ _) _ _ _ | show wpAny _ _ (eval (Expr.ListComp _ _ _ _) _) _ _ _ | show wpAny _ _ (exec (Stmt.Assign _ (Expr.ListComp _ _ _ _) _) _) _ _ _ | show wpAny _ _ (storeName _ (Str.ofString "every") _) _ _ _ | show wpAny _ _ (binaryOp Operator.Add (Value.str _ _) (Value.str _ _)) _ _ _))); first | (k_end; wrow_close) | walk1 | (dsimp only; walk1) | (leave1; walk_say "STEP leave1"; try dsimp only) | fail "no step")))
  rename IsRange _ _ _ _ _ _ _ _ => rg
  refine SrcStep.intro (by rfl) (by assumption) (by assumption) rg (small_up (by (first | lia | omega)) (by (first | lia | omega)) (by (first | lia | omega))) (partN_is (by (first | lia | omega))) (by have := partN_le (len := x.length) (e := e) (by (first | lia | omega)); rw [sizeLine_eq]; (first | lia | omega)) ?_
  intro g2
  refine kct_rest (partOf x e) (stepKs_length e _) ?_ ?_ ?_
  · rintro i v hi ⟨t, rfl⟩
    exact ⟨_, t, stepKs_at hi, by congr 1; rw [Int.zero_add]; push_cast; rfl⟩
  · intro k' t' I' oI' C' oC' D' m' ys' h' tk' E' hk' hC' hx' F' N' off' ne' mk'
    obtain ⟨i, hi, rfl⟩ := mem_stepKs hk'
    have hs := partN_start (by (first | lia | omega)) hi
    dsimp only at F' N' ⊢
    (repeat' (first | (k_unfold; (try dsimp only)) | ((fail_if_success (with_reducible (first | show InvEndN _ _ _ _ _ _ _ | show KswEnd _ _ _ _ _ _ _ _ _ _ _ _ | show WdEnd _ _ _ _ _ _ _ _ _ _ _ | show SrcStep _ _ _ _ _ _ _ _ _ _ _ _ _ _ | show LCg.CompEnd _ _ _ _ _ _ _ _ _ _ _ _ _ _ | show wpAny _ _ (pyIter _) _ _ _ | show wpAny _ _ (call (Value.builtin "str.join") _ _) _ _ _ | show wpAny _ _ (call (Value.ref _) _ _) _ _ _ | show wpAny _ _ (exec (Stmt.While _ _ _ _) _) _ _ _ | show wpAny _ _ (binaryOp Operator.LShift _ _) _ _ _ | show wpAny _ _ (binaryOp Operator.Mult _ _) _ _ _ | show wpAny _ _ (binaryOp Operator.Pow _ _) _ _ _ | show wpAny _ _ (eval (Expr.ListComp _ _ _ _) _) _ _ _ | show wpAny _ _ (exec (Stmt.Assign _ (Expr.ListComp _ _ _ _) _) _) _ _ _ | show wpAny _ _ (storeName _ (Str.ofString "every") _) _ _ _ | show wpAny _ _ (binaryOp Operator.Add (Value.str _ _) (Value.str _ _)) _ _ _))); first | (k_end; wrow_close) | walk1 | (dsimp only; walk1) | (leave1; walk_say "STEP leave1"; try dsimp only) | fail "no step")))
    rename Fr g' _ _ _ => Fe
    rename News g' _ _ _ => Ne
    exact LCg.CompEnd.intro Fe Ne _ (fun _ hp => hp) off' trivial ⟨rfl, _, rfl⟩
  · intro ys hc hl D h tk F1 N1 off1
    dsimp only at F1 N1 ⊢
    (repeat' (first | (k_unfold; (try dsimp only)) | ((fail_if_success (with_reducible (first | show InvEndN _ _ _ _ _ _ _ | show KswEnd _ _ _ _ _ _ _ _ _ _ _ _ | show WdEnd _ _ _ _ _ _ _ _ _ _ _ | show SrcStep _ _ _ _ _ _ _ _ _ _ _ _ _ _ | show LCg.CompEnd _ _ _ _ _ _ _ _ _ _ _ _ _ _ | show wpAny _ _ (pyIter _) _ _ _ | show wpAny _ _ (call (Value.builtin "str.join") _ _) _ _ _ | show wpAny _ _ (call (Value.ref _) _ _) _ _ _ | show wpAny _ _ (exec (Stmt.While _ _ _ _) _) _ _ _ | show wpAny _ _ (binaryOp Operator.LShift _ _) _ _ _ | show wpAny _ _ (binaryOp Operator.Mult _ _) _ _ _ | show wpAny _ _ (binaryOp Operator.Pow _ _) _ _ _ | show wpAny _ _ (eval (Expr.ListComp _ _ _ _) _) _ _ _ | show wpAny _ _ (exec (Stmt.Assign _ (Expr.ListComp _ _ _ _) _) _) _ _ _ | show wpAny _ _ (storeName _ (Str.ofString "every") _) _ _ _ | show wpAny _ _ (binaryOp Operator.Add (Value.str _ _) (Value.str _ _)) _ _ _))); first | (k_end; wrow_close) | walk1 | (dsimp only; walk1) | (leave1; walk_say "STEP leave1"; try dsimp only) | fail "no step")))
    have hflat := parts_all (x := x) (e := e) (by (first | lia | omega))
    refine join_listC (N1.isList (.head _)) (CarriedAll.strsOf hc) (by decide) ?_ ?_
    · have hsum := flat_len ((stepKs e (partN x.length e)).map (partOf x e))
      rw [hflat, sg_len] at hsum
      have := partN_le (len := x.length) (e := e) (by (first | lia | omega))
      rw [← hsum, List.length_map, stepKs_length]
      (first | lia | omega)
    · intro t' k'
      have hstrike := join_bar_strike ((stepKs e (partN x.length e)).map (partOf x e))
      have hmem := join_bar_mem ((stepKs e (partN x.length e)).map (partOf x e))
      have hlen := join_bar_len ((stepKs e (partN x.length e)).map (partOf x e))
      rw [hflat] at hstrike hmem hlen
      rw [List.length_map, stepKs_length, sg_len, sg_len] at hlen
      generalize Txt.join (PySem.Str.ofString "_") ((stepKs e (partN x.length e)).map (partOf x e)) = y at hstrike hmem hlen ⊢
      (repeat' (first | (k_unfold; (try dsimp only)) | ((fail_if_success (with_reducible (first | show InvEndN _ _ _ _ _ _ _ | show KswEnd _ _ _ _ _ _ _ _ _ _ _ _ | show WdEnd _ _ _ _ _ _ _ _ _ _ _ | show SrcStep _ _ _ _ _ _ _ _ _ _ _ _ _ _ | show LCg.CompEnd _ _ _ _ _ _ _ _ _ _ _ _ _ _ | show wpAny _ _ (pyIter _) _ _ _ | show wpAny _ _ (call (Value.builtin "str.join") _ _) _ _ _ | show wpAny _ _ (call (Value.ref _) _ _) _ _ _ | show wpAny _ _ (exec (Stmt.While _ _ _ _) _) _ _ _ | show wpAny _ _ (binaryOp Operator.LShift _ _) _ _ _ | show wpAny _ _ (binaryOp Operator.Mult _ _) _ _ _ | show wpAny _ _ (binaryOp Operator.Pow _ _) _ _ _ | show wpAny _ _ (eval (Expr.ListComp _ _ _ _) _) _ _ _ | show wpAny _ _ (exec (Stmt.Assign _ (Expr.ListComp _ _ _ _) _) _) _ _ _ | show wpAny _ _ (storeName _ (Str.ofString "every") _) _ _ _ | show wpAny _ _ (binaryOp Operator.Add (Value.str _ _) (Value.str _ _)) _ _ _))); first | (k_end; wrow_close) | walk1 | (dsimp only; walk1) | (leave1; walk_say "STEP leave1"; try dsimp only) | fail "no step")))
      rename News g' _ _ _ => Nz
      have H' : TabHit ((D, LCg.lst ys) :: (L' + 1 + 1, oE) :: (L' + 1, o2) :: news) c' := H.more (fun q hq => .tail _ (.tail _ (.tail _ hq)))
      refine c_s2i H' C hx0 (by (first | lia | omega)) hdig (by assumption) (by assumption) (by assumption) (by assumption) (by assumption) rfl (by ktr_room) (by ktr_units) ?_
      intro h4 tk4 dr4 t4 F4 N4
      rw [show digitsVal x.cps.toList = n from hval]
      (repeat' (first | (k_unfold; (try dsimp only)) | ((fail_if_success (with_reducible (first | show InvEndN _ _ _ _ _ _ _ | show KswEnd _ _ _ _ _ _ _ _ _ _ _ _ | show WdEnd _ _ _ _ _ _ _ _ _ _ _ | show SrcStep _ _ _ _ _ _ _ _ _ _ _ _ _ _ | show LCg.CompEnd _ _ _ _ _ _ _ _ _ _ _ _ _ _ | show wpAny _ _ (pyIter _) _ _ _ | show wpAny _ _ (call (Value.builtin "str.join") _ _) _ _ _ | show wpAny _ _ (call (Value.ref _) _ _) _ _ _ | show wpAny _ _ (exec (Stmt.While _ _ _ _) _) _ _ _ | show wpAny _ _ (binaryOp Operator.LShift _ _) _ _ _ | show wpAny _ _ (binaryOp Operator.Mult _ _) _ _ _ | show wpAny _ _ (binaryOp Operator.Pow _ _) _ _ _ | show wpAny _ _ (eval (Expr.ListComp _ _ _ _) _) _ _ _ | show wpAny _ _ (exec (Stmt.Assign _ (Expr.ListComp _ _ _ _) _) _) _ _ _ | show wpAny _ _ (storeName _ (Str.ofString "every") _) _ _ _ | show wpAny _ _ (binaryOp Operator.Add (Value.str _ _) (Value.str _ _)) _ _ _))); first | (k_end; wrow_close) | walk1 | (dsimp only; walk1) | (leave1; walk_say "STEP leave1"; try dsimp only) | fail "no step")))
      obtain ⟨q, hq, hq1, hq2⟩ : ∃ q : Nat, 1 + z.fmod 90 = (q : Int) ∧ 1 ≤ q ∧ q ≤ 90 := by
        have h1 := Int.fmod_nonneg_of_pos z (b := 90) (by decide)
        have h2 := Int.fmod_lt_of_pos z (b := 90) (by decide)
        exact ⟨(1 + z.fmod 90).toNat, by (first | lia | omega), by (first | lia | omega), by (first | lia | omega)⟩
      rw [hq]
      refine SB.mul (mulOk_of 1 90 (by decide) (by (first | lia | omega)) (by (first | lia | omega)) (by decide) (by decide)) ?_
      intro t5 k5
      have hz : sg (Txt.mul (PySem.Str.ofString "0") (q : Int)) = List.replicate q 48 := by
        rw [show PySem.Str.ofString "0" = ⟨#[48]⟩ from by decide]
        exact (mul_one_list 48 q).trans (by rw [Int.toNat_natCast])
      have hzl : (Txt.mul (PySem.Str.ofString "0") (q : Int)).length = q := by rw [← sg_len, hz, List.length_replicate]
      generalize Txt.mul (PySem.Str.ofString "0") (q : Int) = zs at hz hzl ⊢
      (repeat' (first | (k_unfold; (try dsimp only)) | ((fail_if_success (with_reducible (first | show InvEndN _ _ _ _ _ _ _ | show KswEnd _ _ _ _ _ _ _ _ _ _ _ _ | show WdEnd _ _ _ _ _ _ _ _ _ _ _ | show SrcStep _ _ _ _ _ _ _ _ _ _ _ _ _ _ | show LCg.CompEnd _ _ _ _ _ _ _ _ _ _ _ _ _ _ | show wpAny _ _ (pyIter _) _ _ _ | show wpAny _ _ (call (Value.builtin "str.join") _ _) _ _ _ | show wpAny _ _ (call (Value.ref _) _ _) _ _ _ | show wpAny _ _ (exec (Stmt.While _ _ _ _) _) _ _ _ | show wpAny _ _ (binaryOp Operator.LShift _ _) _ _ _ | show wpAny _ _ (binaryOp Operator.Mult _ _) _ _ _ | show wpAny _ _ (binaryOp Operator.Pow _ _) _ _ _ | show wpAny _ _ (eval (Expr.ListComp _ _ _ _) _) _ _ _ | show wpAny _ _ (exec (Stmt.Assign _ (Expr.ListComp _ _ _ _) _) _) _ _ _ | show wpAny _ _ (storeName _ (Str.ofString "every") _) _ _ _ | show wpAny _ _ (binaryOp Operator.Add (Value.str _ _) (Value.str _ _)) _ _ _))); first | (k_end; wrow_close) | walk1 | (dsimp only; walk1) | (leave1; walk_say "STEP leave1"; try dsimp only) | fail "no step")))
      refine SB.add ?_ (by rw [sizeLine_eq]; (first | lia | omega))
      intro t6 k6
      have hzx : sg (zs ++ x) = List.replicate q 48 ++ sg x := by rw [sg_append, hz]
      have hzxl : (zs ++ x).length = q + x.length := by rw [← sg_len, hzx, List.length_append, List.length_replicate, sg_len]
      have hzv : digitsVal (sg (zs ++ x)) = n := by rw [hzx, val_append, val_zeros, hval, Nat.zero_mul, Nat.zero_add]
      have hzd : AllDigits (sg (zs ++ x)) := by
        rw [hzx]
        intro c hc
        rcases List.mem_append.mp hc with hc | hc
        · rw [(List.mem_replicate.mp hc).2]; decide
        · exact hdig c hc
      generalize zs ++ x = zx at hzx hzxl hzv hzd ⊢
      (repeat' (first | (k_unfold; (try dsimp only)) | ((fail_if_success (with_reducible (first | show InvEndN _ _ _ _ _ _ _ | show KswEnd _ _ _ _ _ _ _ _ _ _ _ _ | show WdEnd _ _ _ _ _ _ _ _ _ _ _ | show SrcStep _ _ _ _ _ _ _ _ _ _ _ _ _ _ | show LCg.CompEnd _ _ _ _ _ _ _ _ _ _ _ _ _ _ | show wpAny _ _ (pyIter _) _ _ _ | show wpAny _ _ (call (Value.builtin "str.join") _ _) _ _ _ | show wpAny _ _ (call (Value.ref _) _ _) _ _ _ | show wpAny _ _ (exec (Stmt.While _ _ _ _) _) _ _ _ | show wpAny _ _ (binaryOp Operator.LShift _ _) _ _ _ | show wpAny _ _ (binaryOp Operator.Mult _ _) _ _ _ | show wpAny _ _ (binaryOp Operator.Pow _ _) _ _ _ | show wpAny _ _ (eval (Expr.ListComp _ _ _ _) _) _ _ _ | show wpAny _ _ (exec (Stmt.Assign _ (Expr.ListComp _ _ _ _) _) _) _ _ _ | show wpAny _ _ (storeName _ (Str.ofString "every") _) _ _ _ | show wpAny _ _ (binaryOp Operator.Add (Value.str _ _) (Value.str _ _)) _ _ _))); first | (k_end; wrow_close) | walk1 | (dsimp only; walk1) | (leave1; walk_say "STEP leave1"; try dsimp only) | fail "no step")))
      refine c_s2i H' C (by (first | lia | omega)) (by (first | lia | omega)) hzd (by assumption) (by assumption) (by assumption) (by assumption) (by assumption) rfl (by ktr_room) (by ktr_units) ?_
      intro h7 tk7 dr7 t7 F7 N7
      rw [show digitsVal zx.cps.toList = n from hzv]
      (repeat' (first | (k_unfold; (try dsimp only)) | ((fail_if_success (with_reducible (first | show InvEndN _ _ _ _ _ _ _ | show KswEnd _ _ _ _ _ _ _ _ _ _ _ _ | show WdEnd _ _ _ _ _ _ _ _ _ _ _ | show SrcStep _ _ _ _ _ _ _ _ _ _ _ _ _ _ | show LCg.CompEnd _ _ _ _ _ _ _ _ _ _ _ _ _ _ | show wpAny _ _ (pyIter _) _ _ _ | show wpAny _ _ (call (Value.builtin "str.join") _ _) _ _ _ | show wpAny _ _ (call (Value.ref _) _ _) _ _ _ | show wpAny _ _ (exec (Stmt.While _ _ _ _) _) _ _ _ | show wpAny _ _ (binaryOp Operator.LShift _ _) _ _ _ | show wpAny _ _ (binaryOp Operator.Mult _ _) _ _ _ | show wpAny _ _ (binaryOp Operator.Pow _ _) _ _ _ | show wpAny _ _ (eval (Expr.ListComp _ _ _ _) _) _ _ _ | show wpAny _ _ (exec (Stmt.Assign _ (Expr.ListComp _ _ _ _) _) _) _ _ _ | show wpAny _ _ (storeName _ (Str.ofString "every") _) _ _ _ | show wpAny _ _ (binaryOp Operator.Add (Value.str _ _) (Value.str _ _)) _ _ _))); first | (k_end; wrow_close) | walk1 | (dsimp only; walk1) | (leave1; walk_say "STEP leave1"; try dsimp only) | fail "no step")))
      obtain ⟨r, hr, hr2⟩ : ∃ r : Nat, z.fmod 7 = (r : Int) ∧ r < 7 := by
        have h1 := Int.fmod_nonneg_of_pos z (b := 7) (by decide)
        have h2 := Int.fmod_lt_of_pos z (b := 7) (by decide)
        exact ⟨(z.fmod 7).toNat, by (first | lia | omega), by (first | lia | omega)⟩
      rw [hr]
      obtain ⟨hb1, hb2⟩ := blank_part ⟨r, hr2⟩
      dsimp only at hb1 hb2
      rw [List.all_eq_true] at hb1
      generalize Txt.slice (PySem.Str.ofString " \t\n\x0d\x0b\x0c") none (some ((r : Nat) : Int)) = bl at hb1 hb2 ⊢
      have hfil : (sg x).filter (· != 95) = sg x := List.filter_eq_self.mpr fun c hc => by
        have := hdig c hc
        exact bne_iff_ne.mpr (by (first | lia | omega))
      rw [hfil] at hstrike
      have hpn := partN_le (len := x.length) (e := e) (by (first | lia | omega))
      have hyd : ∀ c ∈ sg y, c = 95 ∨ (48 ≤ c ∧ c ≤ 57) := fun c hc => (hmem c hc).imp id fun h => hdig c h
      refine SB.add ?_ (by rw [sizeLine_eq]; (first | lia | omega))
      intro t8 k8
      (repeat' (first | (k_unfold; (try dsimp only)) | ((fail_if_success (with_reducible (first | show InvEndN _ _ _ _ _ _ _ | show KswEnd _ _ _ _ _ _ _ _ _ _ _ _ | show WdEnd _ _ _ _ _ _ _ _ _ _ _ | show SrcStep _ _ _ _ _ _ _ _ _ _ _ _ _ _ | show LCg.CompEnd _ _ _ _ _ _ _ _ _ _ _ _ _ _ | show wpAny _ _ (pyIter _) _ _ _ | show wpAny _ _ (call (Value.builtin "str.join") _ _) _ _ _ | show wpAny _ _ (call (Value.ref _) _ _) _ _ _ | show wpAny _ _ (exec (Stmt.While _ _ _ _) _) _ _ _ | show wpAny _ _ (binaryOp Operator.LShift _ _) _ _ _ | show wpAny _ _ (binaryOp Operator.Mult _ _) _ _ _ | show wpAny _ _ (binaryOp Operator.Pow _ _) _ _ _ | show wpAny _ _ (eval (Expr.ListComp _ _ _ _) _) _ _ _ | show wpAny _ _ (exec (Stmt.Assign _ (Expr.ListComp _ _ _ _) _) _) _ _ _ | show wpAny _ _ (storeName _ (Str.ofString "every") _) _ _ _ | show wpAny _ _ (binaryOp Operator.Add (Value.str _ _) (Value.str _ _)) _ _ _))); first | (k_end; wrow_close) | walk1 | (dsimp only; walk1) | (leave1; walk_say "STEP leave1"; try dsimp only) | fail "no step")))
      rename News g' _ _ _ => Nq
      have hybl : sg (y ++ bl) = sg y ++ sg bl := sg_append y bl
      refine c_ifs (body := sg y) (blanks := sg bl) H'.cons C hybl ?_ ?_ ?_ ?_ ?_ ?_ ?_ (by assumption) (by assumption) (by assumption) Nq (by assumption) rfl (by ktr_room) (by ktr_units) ?_
      · rw [← sg_len, hybl, List.length_append, sg_len, sg_len]; (first | lia | omega)
      · intro c hc
        rw [hybl] at hc
        rcases List.mem_append.mp hc with hc | hc
        · have := hyd c hc; (first | lia | omega)
        · have := hb1 c hc
          simp only [Bool.and_eq_true, decide_eq_true_eq] at this
          exact this.2
      · intro c hc
        have := hb1 c hc
        simp only [Bool.and_eq_true, decide_eq_true_eq] at this
        exact this.1
      · intro c hc
        exact not_blank (hyd c (List.mem_of_getLast? hc))
      · rw [hstrike, sg_len]; exact hx0
      · rw [hstrike, sg_len]; (first | lia | omega)
      · rw [hstrike]; exact hdig
      rw [hstrike, hval]
      intro h9 tk9 dr9 t9 F9 N9
      (repeat' (first | (k_unfold; (try dsimp only)) | ((fail_if_success (with_reducible (first | show InvEndN _ _ _ _ _ _ _ | show KswEnd _ _ _ _ _ _ _ _ _ _ _ _ | show WdEnd _ _ _ _ _ _ _ _ _ _ _ | show SrcStep _ _ _ _ _ _ _ _ _ _ _ _ _ _ | show LCg.CompEnd _ _ _ _ _ _ _ _ _ _ _ _ _ _ | show wpAny _ _ (pyIter _) _ _ _ | show wpAny _ _ (call (Value.builtin "str.join") _ _) _ _ _ | show wpAny _ _ (call (Value.ref _) _ _) _ _ _ | show wpAny _ _ (exec (Stmt.While _ _ _ _) _) _ _ _ | show wpAny _ _ (binaryOp Operator.LShift _ _) _ _ _ | show wpAny _ _ (binaryOp Operator.Mult _ _) _ _ _ | show wpAny _ _ (binaryOp Operator.Pow _ _) _ _ _ | show wpAny _ _ (eval (Expr.ListComp _ _ _ _) _) _ _ _ | show wpAny _ _ (exec (Stmt.Assign _ (Expr.ListComp _ _ _ _) _) _) _ _ _ | show wpAny _ _ (storeName _ (Str.ofString "every") _) _ _ _ | show wpAny _ _ (binaryOp Operator.Add (Value.str _ _) (Value.str _ _)) _ _ _))); first | (k_end; wrow_close) | walk1 | (dsimp only; walk1) | (leave1; walk_say "STEP leave1"; try dsimp only) | fail "no step")))
      refine SB.add ?_ (by rw [sizeLine_eq, show (PySem.Str.ofString "00_").length = 3 from by decide]; (first | lia | omega))
      intro t10 k10
      have h00 : sg (PySem.Str.ofString "00_" ++ y) = ([48, 48, 95] ++ sg y) ++ [] := by rw [sg_append, List.append_nil]; rfl
      have h00f : ([48, 48, 95] ++ sg y).filter (· != 95) = [48, 48] ++ sg x := by rw [List.filter_append, hstrike]; rfl
      have h00v : digitsVal ([48, 48] ++ sg x) = n := by rw [val_append, hval, show digitsVal [48, 48] = 0 from rfl, Nat.zero_mul, Nat.zero_add]
      have h00l : (PySem.Str.ofString "00_" ++ y).length = 3 + y.length := by rw [← sg_len, h00, List.append_nil, List.length_append, sg_len]; rfl
      generalize PySem.Str.ofString "00_" ++ y = yy at h00 h00l ⊢
      (repeat' (first | (k_unfold; (try dsimp only)) | ((fail_if_success (with_reducible (first | show InvEndN _ _ _ _ _ _ _ | show KswEnd _ _ _ _ _ _ _ _ _ _ _ _ | show WdEnd _ _ _ _ _ _ _ _ _ _ _ | show SrcStep _ _ _ _ _ _ _ _ _ _ _ _ _ _ | show LCg.CompEnd _ _ _ _ _ _ _ _ _ _ _ _ _ _ | show wpAny _ _ (pyIter _) _ _ _ | show wpAny _ _ (call (Value.builtin "str.join") _ _) _ _ _ | show wpAny _ _ (call (Value.ref _) _ _) _ _ _ | show wpAny _ _ (exec (Stmt.While _ _ _ _) _) _ _ _ | show wpAny _ _ (binaryOp Operator.LShift _ _) _ _ _ | show wpAny _ _ (binaryOp Operator.Mult _ _) _ _ _ | show wpAny _ _ (binaryOp Operator.Pow _ _) _ _ _ | show wpAny _ _ (eval (Expr.ListComp _ _ _ _) _) _ _ _ | show wpAny _ _ (exec (Stmt.Assign _ (Expr.ListComp _ _ _ _) _) _) _ _ _ | show wpAny _ _ (storeName _ (Str.ofString "every") _) _ _ _ | show wpAny _ _ (binaryOp Operator.Add (Value.str _ _) (Value.str _ _)) _ _ _))); first | (k_end; wrow_close) | walk1 | (dsimp only; walk1) | (leave1; walk_say "STEP leave1"; try dsimp only) | fail "no step")))
      rename News g' _ _ _ => Nr
      refine c_ifs (body := [48, 48, 95] ++ sg y) (blanks := []) H'.cons C h00 (by (first | lia | omega)) ?_ (List.forall_mem_nil _) ?_ ?_ ?_ ?_ (by assumption) (by assumption) (by assumption) Nr (by assumption) rfl (by ktr_room) (by ktr_units) ?_
      · intro c hc
        rw [h00, List.append_nil] at hc
        rcases List.mem_append.mp hc with hc | hc
        · have : ∀ c ∈ [48, 48, 95], c < 128 := by decide
          exact this c hc
        · have := hyd c hc; (first | lia | omega)
      · intro c hc
        refine not_blank ?_
        rcases List.mem_append.mp (List.mem_of_getLast? hc) with hc | hc
        · have : ∀ c ∈ [48, 48, 95], c = 95 ∨ (48 ≤ c ∧ c ≤ 57) := by decide
          exact this c hc
        · exact hyd c hc
      · rw [h00f]; simp
      · rw [h00f, List.length_append, sg_len]; simp only [List.length_cons, List.length_nil]; (first | lia | omega)
      · rw [h00f]
        intro c hc
        rcases List.mem_append.mp hc with hc | hc
        · have : ∀ c ∈ [48, 48], 48 ≤ c ∧ c ≤ 57 := by decide
          exact this c hc
        · exact hdig c hc
      rw [h00f, h00v]
      intro h11 tk11 dr11 t11 F11 N11
      (repeat' (first | (k_unfold; (try dsimp only)) | ((fail_if_success (with_reducible (first | show InvEndN _ _ _ _ _ _ _ | show KswEnd _ _ _ _ _ _ _ _ _ _ _ _ | show WdEnd _ _ _ _ _ _ _ _ _ _ _ | show SrcStep _ _ _ _ _ _ _ _ _ _ _ _ _ _ | show LCg.CompEnd _ _ _ _ _ _ _ _ _ _ _ _ _ _ | show wpAny _ _ (pyIter _) _ _ _ | show wpAny _ _ (call (Value.builtin "str.join") _ _) _ _ _ | show wpAny _ _ (call (Value.ref _) _ _) _ _ _ | show wpAny _ _ (exec (Stmt.While _ _ _ _) _) _ _ _ | show wpAny _ _ (binaryOp Operator.LShift _ _) _ _ _ | show wpAny _ _ (binaryOp Operator.Mult _ _) _ _ _ | show wpAny _ _ (binaryOp Operator.Pow _ _) _ _ _ | show wpAny _ _ (eval (Expr.ListComp _ _ _ _) _) _ _ _ | show wpAny _ _ (exec (Stmt.Assign _ (Expr.ListComp _ _ _ _) _) _) _ _ _ | show wpAny _ _ (storeName _ (Str.ofString "every") _) _ _ _ | show wpAny _ _ (binaryOp Operator.Add (Value.str _ _) (Value.str _ _)) _ _ _))); first | (k_end; wrow_close) | walk1 | (dsimp only; walk1) | (leave1; walk_say "STEP leave1"; try dsimp only) | fail "no step")))
      rename News g' _ _ _ => Ns
      refine KM.mul (vs := [.int (n : Int) t1]) (ns := [(n : Int)]) (by assumption) Ns (Ns.isList (.head _)) (.cons _ _ .nil) (by decide) (by decide) (show 4 ≤ 2 ^ 24 by decide) ?_
      intro D4 h12 F12 N12 l12 hi12 n12 _ _ _ _
      (repeat' (first | (k_unfold; (try dsimp only)) | ((fail_if_success (with_reducible (first | show InvEndN _ _ _ _ _ _ _ | show KswEnd _ _ _ _ _ _ _ _ _ _ _ _ | show WdEnd _ _ _ _ _ _ _ _ _ _ _ | show SrcStep _ _ _ _ _ _ _ _ _ _ _ _ _ _ | show LCg.CompEnd _ _ _ _ _ _ _ _ _ _ _ _ _ _ | show wpAny _ _ (pyIter _) _ _ _ | show wpAny _ _ (call (Value.builtin "str.join") _ _) _ _ _ | show wpAny _ _ (call (Value.ref _) _ _) _ _ _ | show wpAny _ _ (exec (Stmt.While _ _ _ _) _) _ _ _ | show wpAny _ _ (binaryOp Operator.LShift _ _) _ _ _ | show wpAny _ _ (binaryOp Operator.Mult _ _) _ _ _ | show wpAny _ _ (binaryOp Operator.Pow _ _) _ _ _ | show wpAny _ _ (eval (Expr.ListComp _ _ _ _) _) _ _ _ | show wpAny _ _ (exec (Stmt.Assign _ (Expr.ListComp _ _ _ _) _) _) _ _ _ | show wpAny _ _ (storeName _ (Str.ofString "every") _) _ _ _ | show wpAny _ _ (binaryOp Operator.Add (Value.str _ _) (Value.str _ _)) _ _ _))); first | (k_end; wrow_close) | walk1 | (dsimp only; walk1) | (leave1; walk_say "STEP leave1"; try dsimp only) | fail "no step")))
      · refine LCt.ListComp_T (by assumption) (by with_unfolding_all rfl) (by decide) (by rfl) (by decide) (by rfl) ?_
        (repeat' (first | (k_unfold; (try dsimp only)) | ((fail_if_success (with_reducible (first | show InvEndN _ _ _ _ _ _ _ | show KswEnd _ _ _ _ _ _ _ _ _ _ _ _ | show WdEnd _ _ _ _ _ _ _ _ _ _ _ | show SrcStep _ _ _ _ _ _ _ _ _ _ _ _ _ _ | show LCg.CompEnd _ _ _ _ _ _ _ _ _ _ _ _ _ _ | show wpAny _ _ (pyIter _) _ _ _ | show wpAny _ _ (call (Value.builtin "str.join") _ _) _ _ _ | show wpAny _ _ (call (Value.ref _) _ _) _ _ _ | show wpAny _ _ (exec (Stmt.While _ _ _ _) _) _ _ _ | show wpAny _ _ (binaryOp Operator.LShift _ _) _ _ _ | show wpAny _ _ (binaryOp Operator.Mult _ _) _ _ _ | show wpAny _ _ (binaryOp Operator.Pow _ _) _ _ _ | show wpAny _ _ (eval (Expr.ListComp _ _ _ _) _) _ _ _ | show wpAny _ _ (exec (Stmt.Assign _ (Expr.ListComp _ _ _ _) _) _) _ _ _ | show wpAny _ _ (storeName _ (Str.ofString "every") _) _ _ _ | show wpAny _ _ (binaryOp Operator.Add (Value.str _ _) (Value.str _ _)) _ _ _))); first | (k_end; wrow_close) | walk1 | (dsimp only; walk1) | (leave1; walk_say "STEP leave1"; try dsimp only) | fail "no step")))
        rename News g' _ _ _ => Nu
        refine LCt.CompSrcT.ledger (by rfl) (by assumption) Nu (.tail _ (.tail _ (.head _))) (show 4 ≤ sizeLine by rw [sizeLine_eq]; decide) ?_
        intro g3
        refine kci_list (vs := [.int (n : Int) t4, .int (n : Int) t7, .int (n : Int) t9, .int (n : Int) t11]) (ns := [(n : Int), n, n, n]) (fun l _ => l) (.cons _ _ (.cons _ _ (.cons _ _ (.cons _ _ .nil)))) ?_ ?_ ?_
        · intro k' t' I' oI' C' oC' D' m' ys' l' h' tk' E' hk' hi' hC' hx' F' N' off' ne' mk'
          dsimp only at F' N' ⊢
          (repeat' (first | (k_unfold; (try dsimp only)) | ((fail_if_success (with_reducible (first | show InvEndN _ _ _ _ _ _ _ | show KswEnd _ _ _ _ _ _ _ _ _ _ _ _ | show WdEnd _ _ _ _ _ _ _ _ _ _ _ | show SrcStep _ _ _ _ _ _ _ _ _ _ _ _ _ _ | show LCg.CompEnd _ _ _ _ _ _ _ _ _ _ _ _ _ _ | show wpAny _ _ (pyIter _) _ _ _ | show wpAny _ _ (call (Value.builtin "str.join") _ _) _ _ _ | show wpAny _ _ (call (Value.ref _) _ _) _ _ _ | show wpAny _ _ (exec (Stmt.While _ _ _ _) _) _ _ _ | show wpAny _ _ (binaryOp Operator.LShift _ _) _ _ _ | show wpAny _ _ (binaryOp Operator.Mult _ _) _ _ _ | show wpAny _ _ (binaryOp Operator.Pow _ _) _ _ _ | show wpAny _ _ (eval (Expr.ListComp _ _ _ _) _) _ _ _ | show wpAny _ _ (exec (Stmt.Assign _ (Expr.ListComp _ _ _ _) _) _) _ _ _ | show wpAny _ _ (storeName _ (Str.ofString "every") _) _ _ _ | show wpAny _ _ (binaryOp Operator.Add (Value.str _ _) (Value.str _ _)) _ _ _))); first | (k_end; wrow_close) | walk1 | (dsimp only; walk1) | (leave1; walk_say "STEP leave1"; try dsimp only) | fail "no step")))
          exact LCg.CompEnd.intro F' N' _ (fun _ hp => hp) off' (.inr ⟨_, .tail _ (.tail _ (.head _)), rfl, _, rfl⟩) (kci_no rfl rfl)
        · intro ys2 hi2 hl2
          replace hi2 : IntsAre ys2 [] := hi2
          cases hi2
          intro D5 h13 tk13 F13 N13 off13
          dsimp only at F13 N13 ⊢
          (repeat' (first | (k_unfold; (try dsimp only)) | ((fail_if_success (with_reducible (first | show InvEndN _ _ _ _ _ _ _ | show KswEnd _ _ _ _ _ _ _ _ _ _ _ _ | show WdEnd _ _ _ _ _ _ _ _ _ _ _ | show SrcStep _ _ _ _ _ _ _ _ _ _ _ _ _ _ | show LCg.CompEnd _ _ _ _ _ _ _ _ _ _ _ _ _ _ | show wpAny _ _ (pyIter _) _ _ _ | show wpAny _ _ (call (Value.builtin "str.join") _ _) _ _ _ | show wpAny _ _ (call (Value.ref _) _ _) _ _ _ | show wpAny _ _ (exec (Stmt.While _ _ _ _) _) _ _ _ | show wpAny _ _ (binaryOp Operator.LShift _ _) _ _ _ | show wpAny _ _ (binaryOp Operator.Mult _ _) _ _ _ | show wpAny _ _ (binaryOp Operator.Pow _ _) _ _ _ | show wpAny _ _ (eval (Expr.ListComp _ _ _ _) _) _ _ _ | show wpAny _ _ (exec (Stmt.Assign _ (Expr.ListComp _ _ _ _) _) _) _ _ _ | show wpAny _ _ (storeName _ (Str.ofString "every") _) _ _ _ | show wpAny _ _ (binaryOp Operator.Add (Value.str _ _) (Value.str _ _)) _ _ _))); first | (k_end; wrow_close) | walk1 | (dsimp only; walk1) | (leave1; walk_say "STEP leave1"; try dsimp only) | fail "no step")))
          rename News h₀ _ _ _ => Nv
          exact hret _ _ _ (by assumption) (fun q hq => Nv q (by simp only [List.mem_cons]; simp [hq]))
        · intro l k
          exact Nat.le_succ _
      · rw [decide_eq_true (show [(n : Int), n, n, n] = (List.replicate (Int.toNat 4) [(n : Int)]).flatten from rfl)]
        rename News h₀ _ _ _ => Nw
        exact hret _ _ _ (by assumption) (fun q hq => Nw q (.tail _ (.tail _ (.tail _ (.tail _ (.tail _ (.tail _ hq)))))))

end
end Mine
end
section
theorem Mine.reset_C12 : True := by
  w_top off
  exact trivial
open PySem PySem.W PySem.NumText PyProof.Rows
set_option maxRecDepth 100000
set_option linter.unusedVariables false
namespace Mine
theorem fill_12 (w : World) (h : Heap) : Frag.In (Mine.Head.hd.heap_39 w.params) h → Challenge.rw_lo0013_01.row.prog = Challenge.rw_lo0013_01.row.prog := by
  k_fill
  intros; rfl
section
variable {w : World} {p : Program} {loose : List Str} {mean : ExcName → Option Value} {mg mb : Str → Option Value} {dp un : Nat} {gd : Option (List Code)} {cn : Str} {cs : Scope} {a : Addr} {ccd : Value} {cl : List (Str × Addr)} {outer : List Env} {A₀ : Around} {base h₀ : Heap} {L : Addr} {m : Str → Option Value} {news : List (Addr × Obj)} {s : Shared} {Q E : Value → Shared → Prop}

set_option maxHeartbeats 8000000 in
theorem c_refused {y : PySem.Str} {ty : Tok} {body blanks : List Nat} (H : Tab0 news) (C : CodeHd base 28 24) (XB : Frag.In (Mine.Head.hd.heap_39 w.params) base) (TB : Top p loose mean mg mb base) (hy : sg y = body ++ blanks) (hyl : y.length ≤ 100000) (hA : ∀ c ∈ sg y, c < 128) (hb : ∀ c ∈ blanks, spc c = true) (hl : ∀ c, body.getLast? = some c → spc c = false)
    (h1 : (body.filter (· != 95)).length ≤ 4095) (hdull : Dull (body.filter (· != 95))) (hbad : body.filter (· != 95) = [] ∨ ∃ c ∈ body.filter (· != 95), Foreign c)
    (B : Below A₀ base [] h₀) (F : Fr h₀ L s.heap m) (X : Frag.In (Mine.Head.hd.heap_39 w.params) h₀) (N : News h₀ L s.heap news) (T : Top p loose mean mg mb h₀) (hk : cs.kind = .function) (hd : dp + 12 < recursionLimit) (hu : un + 80 < cLine)
    (hret : ∀ h' tk' dr' c' newsX, TabTo news newsX c' → Fr h₀ L h' m → News h₀ L h' newsX → Q (.bool true) { s with heap := h', toks := tk', drawn := dr' }) :
    wpC (model Challenge.rw_lo0013_01.row.prog w) (ktrTop dp un gd cn cs L a ccd cl []) (call (.ref 74) [.str y ty]) Q E s := by
  refine wpC_call ?_
  k_dflt (refine' defCS0 ?k1 ?k2 ?k3 ?k4 ?k5 ?kA ?kF ?k6 ?k7 ?k8 ?k9 ?kB ?_ ?kK ?c2 ?c3 ?c4 ?c5; (case kA => exact rfl); (case kF => exact rfl); (case kK => first | exact rfl | assumption); (case k1 => exact B); (case k2 => exact F); (case k3 => exact X); (case k4 => exact N); (case k5 => exact T); (case k6 => k_is); (case k7 => k_is); (case k8 => ktr_room); (case k9 => exact BindsTo.of_eq rfl); (case kB => exact locs rfl); (case c2 => exact rfl); (case c3 => exact rfl); (case c4 => exact rfl); (case c5 => decide); k_whole)
  intro g' L' h' FG' F' N' B' X' T' D'
  dsimp only
  refine wpC_execs_cons (wpC_Try_except ?_)
  refine wpC_execs_cons (wpC_Expr (wpC_Call ?_))
  (repeat' (first | (k_unfold; (try dsimp only)) | ((fail_if_success (with_reducible (first | show InvEndN _ _ _ _ _ _ _ | show KswEnd _ _ _ _ _ _ _ _ _ _ _ _ | show WdEnd _ _ _ _ _ _ _ _ _ _ _ | show SrcStep _ _ _ _ _ _ _ _ _ _ _ _ _ _ | show LCg.CompEnd _ _ _ _ _ _ _ _ _ _ _ _ _ _ | show wpAny _ _ (pyIter _) _ _ _ | show wpAny _ _ (call (Value.builtin "str.join") _ _) _ _ _ | show wpAny _ _ (call (Value.ref _) _ _) _ _ _ | show wpAny _ _ (exec (Stmt.While _ _ _ _) _) _ _ _ | show wpAny _ _ (binaryOp Operator.LShift _ _) _ _ _ | show wpAny _ _ (binaryOp Operator.Mult _ _) _ _ _ | show wpAny _ _ (binaryOp Operator.Pow _ _) _ _ _ | show wpAny _ _ (eval (Expr.ListComp _ _ _ _) _) _ _ _ | show wpAny _ _ (exec (Stmt.Assign _ (Expr.ListComp _ _ _ _) _) _) _ _ _))); first | (k_end; wrow_close) | walk1 | (dsimp only; walk1) | (leave1; walk_say "STEP leave1"; try dsimp only) | fail "no step")))
  refine wpC_callP (P := Frag.In (Mine.Head.hd.heap_39 w.params)) (keeps_K (by k_is)) ?_
  (repeat' (first | (k_unfold; (try dsimp only)) | ((fail_if_success (with_reducible (first | show InvEndN _ _ _ _ _ _ _ | show KswEnd _ _ _ _ _ _ _ _ _ _ _ _ | show WdEnd _ _ _ _ _ _ _ _ _ _ _ | show SrcStep _ _ _ _ _ _ _ _ _ _ _ _ _ _ | show LCg.CompEnd _ _ _ _ _ _ _ _ _ _ _ _ _ _ | show wpAny _ _ (pyIter _) _ _ _ | show wpAny _ _ (call (Value.builtin "str.join") _ _) _ _ _ | show wpAny _ _ (call (Value.ref _) _ _) _ _ _ | show wpAny _ _ (exec (Stmt.While _ _ _ _) _) _ _ _ | show wpAny _ _ (binaryOp Operator.LShift _ _) _ _ _ | show wpAny _ _ (binaryOp Operator.Mult _ _) _ _ _ | show wpAny _ _ (binaryOp Operator.Pow _ _) _ _ _ | show wpAny _ _ (eval (Expr.ListComp _ _ _ _) _) _ _ _ | show wpAny _ _ (exec (Stmt.Assign _ (Expr.ListComp _ _ _ _) _) _) _ _ _))); first | (k_end; wrow_close) | walk1 | (dsimp only; walk1) | (leave1; walk_say "STEP leave1"; try dsimp only) | fail "no step")))
  refine c_ifs_bad H C hy hyl hA hb hl h1 hdull hbad (by assumption) (by assumption) (by assumption) (by assumption) (by assumption) rfl (by ktr_room) (by ktr_units) ?_
  intro e3 h3 tk3 dr3 c' newsX TT ht
  obtain ⟨a3, G, rfl, FG2, hsm, R⟩ := ht
  refine caught_SN0 (T' := "ValueError") R FG2 B' hsm XB TB D' KtsTurn.refl (by k_is) PyProof.Rows.Boot.«ValueError» (by decide) PySem.F.isExc_ValueError PySem.F.notTuple_ValueError (by kts_sub) ?_
  intro h4 g4 T4 F4 N4 K4 X4 P4 D4
  (repeat' (first | (k_unfold; (try dsimp only)) | ((fail_if_success (with_reducible (first | show InvEndN _ _ _ _ _ _ _ | show KswEnd _ _ _ _ _ _ _ _ _ _ _ _ | show WdEnd _ _ _ _ _ _ _ _ _ _ _ | show SrcStep _ _ _ _ _ _ _ _ _ _ _ _ _ _ | show LCg.CompEnd _ _ _ _ _ _ _ _ _ _ _ _ _ _ | show wpAny _ _ (pyIter _) _ _ _ | show wpAny _ _ (call (Value.builtin "str.join") _ _) _ _ _ | show wpAny _ _ (call (Value.ref _) _ _) _ _ _ | show wpAny _ _ (exec (Stmt.While _ _ _ _) _) _ _ _ | show wpAny _ _ (binaryOp Operator.LShift _ _) _ _ _ | show wpAny _ _ (binaryOp Operator.Mult _ _) _ _ _ | show wpAny _ _ (binaryOp Operator.Pow _ _) _ _ _ | show wpAny _ _ (eval (Expr.ListComp _ _ _ _) _) _ _ _ | show wpAny _ _ (exec (Stmt.Assign _ (Expr.ListComp _ _ _ _) _) _) _ _ _))); first | (k_end; wrow_close) | walk1 | (dsimp only; walk1) | (leave1; walk_say "STEP leave1"; try dsimp only) | fail "no step")))
  exact hret _ _ _ _ _ TT (by assumption) (by assumption)

end
end Mine
end
section
theorem Mine.reset_DB : True := by
  w_top off
  exact trivial
open PySem PySem.W PySem.NumText PyProof.Rows
set_option maxRecDepth 100000
set_option linter.unusedVariables false
namespace Mine
theorem fill_20 (w : World) (h : Heap) : Frag.In (Mine.Head.hd.heap_39 w.params) h → Challenge.rw_lo0013_01.row.prog = Challenge.rw_lo0013_01.row.prog := by
  k_fill
  intros; rfl
section
variable {w : World} {p : Program} {loose : List Str} {mean : ExcName → Option Value} {mg mb : Str → Option Value} {dp un : Nat} {gd : Option (List Code)} {cn : Str} {cs : Scope} {a : Addr} {ccd : Value} {cl : List (Str × Addr)} {outer : List Env} {A₀ : Around} {base h₀ : Heap} {L : Addr} {m : Str → Option Value} {news : List (Addr × Obj)} {s : Shared} {Q E : Value → Shared → Prop}

/-- the law's def -/
noncomputable def lawOf : Arguments × List Stmt × Scope := match Challenge.rw_lo0013_01.row.prog.main.body.reverse with
  | .FunctionDef _ p b _ _ _ sc _ _ _ :: _ => (p, b, sc)
  | _ => default
theorem frAt {h : Heap} {ps : List (PySem.Str × Value)} (F : Fr h₀ L h m) (hk : ∀ p ∈ ps, m p.1 = some p.2) : Fr h₀ L h (kstB m ps) := by
  have e : kstB m ps = m := funext fun z => kstB_eq hk fun _ => rfl
  rw [e]; exact F

end
end Mine
end
section
theorem Mine.reset_D7 : True := by
  w_top off
  exact trivial
open PySem PySem.W PySem.NumText PyProof.Rows
set_option maxRecDepth 100000
set_option linter.unusedVariables false
namespace Mine
theorem fill_27 (w : World) (h : Heap) : Frag.In (Mine.Head.hd.heap_39 w.params) h → Challenge.rw_lo0013_01.row.prog = Challenge.rw_lo0013_01.row.prog := by
  k_fill
  intros; rfl
section
variable {w : World} {p : Program} {loose : List Str} {mean : ExcName → Option Value} {mg mb : Str → Option Value} {dp un : Nat} {gd : Option (List Code)} {cn : Str} {cs : Scope} {a : Addr} {ccd : Value} {cl : List (Str × Addr)} {outer : List Env} {A₀ : Around} {base h₀ : Heap} {L : Addr} {m : Str → Option Value} {news : List (Addr × Obj)} {s : Shared} {Q E : Value → Shared → Prop}

theorem small_pow {n k : Nat} (hk : k = 4096) (h : n < 2 ^ 600) : n < 10 ^ k := by
  subst hk
  exact Nat.lt_of_lt_of_le (Nat.lt_trans h pow600) (Nat.pow_le_pow_right (by decide) (by decide))
theorem bits600 {n : Nat} (h : n < 2 ^ 600) : Builtin.Int.intBits (n : Int) ≤ 600 := intBits_le (by rw [Int.natAbs_natCast]; exact h)
/-- a text of figures -/
structure Told (x : PySem.Str) (n : Nat) : Prop where
  pos : 0 < x.length
  len : x.length ≤ 3000
  dig : AllDigits (sg x)
  val : digitsVal (sg x) = n
theorem Told.of {x : PySem.Str} {n : Nat} (hn : n < 2 ^ 600) (hx : x.cps.toList = figs (figN n) n) : Told x n := by
  have hl : x.length = figN n := by rw [← sg_len, show sg x = _ from hx, figs_len]
  refine ⟨?_, ?_, ?_, ?_⟩
  · rw [hl]; unfold figN; (first | lia | omega)
  · rw [hl]
    exact Nat.le_trans (figN_le (by decide) (Nat.lt_trans hn pow600)) (by decide)
  · rw [show sg x = _ from hx]; exact figs_digits _ _
  · rw [show sg x = _ from hx]; exact figs_val (figN_lt n)
theorem mem_front {a b q : Addr × Obj} {r : List (Addr × Obj)} (h : q ∈ [a, b]) : q ∈ a :: b :: r := by
  rcases List.mem_cons.mp h with rfl | h
  · exact .head _
  · rw [List.mem_singleton.mp h]; exact .tail _ (.head _)
theorem stored2 {a b z : PySem.Str} {o1 o2 o3 o4 : Option Value} (hz : [a, b].contains z = false) : (if z = b then o1 else if z = a then o2 else if [a, b].contains z then o3 else o4) = o4 := by
  have h := hz
  simp only [List.contains_cons, List.contains_nil, Bool.or_false, Bool.or_eq_false_iff, beq_eq_false_iff_ne, ne_eq] at h
  rw [if_neg h.2, if_neg h.1, if_neg (by rw [hz]; exact Bool.false_ne_true)]
set_option maxHeartbeats 8000000 in
theorem law7 {params : Arguments} {body : List Stmt} {scope : Scope} (hdef : lawOf = (params, body, scope)) {D : Addr} {d0 d1 d2 d3 d4 d5 : Int} {u0 u1 u2 u3 u4 u5 : Tok} {n nr k : Nat} {v1 v2 v3 v4 v5 : Tok} (hk4 : k = 4096) (hn2 : n < 2 ^ 600) (hnr2 : nr < 2 ^ 600) {v : Nat} {x : PySem.Str} {v8 v9 : Tok} {c' : Addr} {oc : Obj} (H : TabHit [(24, tabObj #[rawInt 46, rawInt 4, .ref c']), (c', oc)] c') (hx1 : 2050 ≤ x.length) (hx2 : x.length ≤ 2400) (hdig : AllDigits (sg x)) (hval : digitsVal (sg x) = v)
    (C : CodeHd h₀ 28 24)
    (B : Below A₀ h₀ [] h₀) (F : Fr h₀ L s.heap (kstB m [(PySem.Str.ofString "draws", .ref D), (PySem.Str.ofString "threes", .int ((rep 3 k : Nat) : Int) v1), (PySem.Str.ofString "eights", .int ((rep 8 k : Nat) : Int) v2), (PySem.Str.ofString "number", .int (n : Int) v3), (PySem.Str.ofString "packed", .int ((bcd n : Nat) : Int) v4), (PySem.Str.ofString "near", .int (nr : Int) v5), (PySem.Str.ofString "wide", .int (v : Int) v8), (PySem.Str.ofString "text", .str x v9)])) (X : Frag.In (Mine.Head.hd.heap_39 w.params) h₀)
    (N : News h₀ L s.heap [(D, LCg.lst [.int d0 u0, .int d1 u1, .int d2 u2, .int d3 u3, .int d4 u4, .int d5 u5]), (24, tabObj #[rawInt 46, rawInt 4, .ref c']), (c', oc)]) (T : Top p loose mean mg mb h₀) (hd : dp + 20 < recursionLimit) (hu : un + 100 < cLine) {Q : Flow → Shared → Prop}
    (hret : ∀ h' tk' dr' m' c', Fr h₀ L h' m' → News h₀ L h' [(24, tabObj #[rawInt 46, rawInt 4, .ref c'])] → Q (.ret (.bool true)) { s with heap := h', toks := tk', drawn := dr' }) :
    wpC (model Challenge.rw_lo0013_01.row.prog w) (ktrTop dp un gd (PySem.Str.ofString "law") scope L a ccd [(PySem.Str.ofString "cells", L + 1)] []) (execs (body.drop 16) (envX (PySem.Str.ofString "law") scope L a ccd [(PySem.Str.ofString "cells", L + 1)])) Q (fun _ _ => False) s := by
  have e : lawOf = (_, [_, _, _, _, _, _, _, _, _, _, _, _, _, _, _, _, _, _, _], _) := rfl
  rw [e] at hdef
  have hdef' := hdef
  cases hdef
  dsimp only [List.drop]
  refine wpC_execs_consA ?_
  (repeat' (first | (k_unfold; (try dsimp only)) | ((fail_if_success (with_reducible (first | show InvEndN _ _ _ _ _ _ _ | show KswEnd _ _ _ _ _ _ _ _ _ _ _ _ | show WdEnd _ _ _ _ _ _ _ _ _ _ _ | show SrcStep _ _ _ _ _ _ _ _ _ _ _ _ _ _ | show LCg.CompEnd _ _ _ _ _ _ _ _ _ _ _ _ _ _ | show wpAny _ _ (pyIter _) _ _ _ | show wpAny _ _ (call (Value.builtin "str.join") _ _) _ _ _ | show wpAny _ _ (call (Value.ref _) _ _) _ _ _ | show wpAny _ _ (exec (Stmt.While _ _ _ _) _) _ _ _ | show wpAny _ _ (binaryOp Operator.LShift _ _) _ _ _ | show wpAny _ _ (binaryOp Operator.Mult _ _) _ _ _ | show wpAny _ _ (binaryOp Operator.Pow _ _) _ _ _ | show wpAny _ _ (eval (Expr.ListComp _ _ _ _) _) _ _ _ | show wpAny _ _ (exec (Stmt.Assign _ (Expr.ListComp _ _ _ _) _) _) _ _ _ | show LoopT _ _ _ _ _ _ _ _ _ _ | show FtPost _ _ _ _ _ _ _ _ _ | show FtEnd _ _ _ _ _ _ _ | show wpAny _ _ (binaryOp Operator.Mod _ _) _ _ _))); first | (k_end; wrow_close) | walk1 | (dsimp only; walk1) | (leave1; walk_say "STEP leave1"; try dsimp only) | fail "no step")))
  try dsimp only
  refine c_packed (k := k) (by (first | lia | omega)) (small_pow hk4 hnr2) (bits600 hnr2) (by assumption) (by assumption) (by assumption) (by assumption) (by assumption) rfl (by ktr_room) (by ktr_units) ?_
  intro t2 h2 tk2 F2 N2
  (repeat' (first | (k_unfold; (try dsimp only)) | ((fail_if_success (with_reducible (first | show InvEndN _ _ _ _ _ _ _ | show KswEnd _ _ _ _ _ _ _ _ _ _ _ _ | show WdEnd _ _ _ _ _ _ _ _ _ _ _ | show SrcStep _ _ _ _ _ _ _ _ _ _ _ _ _ _ | show LCg.CompEnd _ _ _ _ _ _ _ _ _ _ _ _ _ _ | show wpAny _ _ (pyIter _) _ _ _ | show wpAny _ _ (call (Value.builtin "str.join") _ _) _ _ _ | show wpAny _ _ (call (Value.ref _) _ _) _ _ _ | show wpAny _ _ (exec (Stmt.While _ _ _ _) _) _ _ _ | show wpAny _ _ (binaryOp Operator.LShift _ _) _ _ _ | show wpAny _ _ (binaryOp Operator.Mult _ _) _ _ _ | show wpAny _ _ (binaryOp Operator.Pow _ _) _ _ _ | show wpAny _ _ (eval (Expr.ListComp _ _ _ _) _) _ _ _ | show wpAny _ _ (exec (Stmt.Assign _ (Expr.ListComp _ _ _ _) _) _) _ _ _ | show LoopT _ _ _ _ _ _ _ _ _ _ | show FtPost _ _ _ _ _ _ _ _ _ | show FtEnd _ _ _ _ _ _ _ | show wpAny _ _ (binaryOp Operator.Mod _ _) _ _ _))); first | (k_end; wrow_close) | walk1 | (dsimp only; walk1) | (leave1; walk_say "STEP leave1"; try dsimp only) | fail "no step")))
  try dsimp only
  refine c_text (n := nr) (Nat.lt_of_lt_of_le (Nat.lt_trans hnr2 pow600) (Nat.pow_le_pow_right (by decide) (by decide))) (by assumption) (by assumption) (by assumption) (by assumption) (by assumption) rfl (by ktr_room) (by ktr_units) ?_
  intro xr tr h3 tk3 hxr F3 N3
  have Tr := Told.of hnr2 hxr
  clear hxr
  (repeat' (first | (k_unfold; (try dsimp only)) | ((fail_if_success (with_reducible (first | show InvEndN _ _ _ _ _ _ _ | show KswEnd _ _ _ _ _ _ _ _ _ _ _ _ | show WdEnd _ _ _ _ _ _ _ _ _ _ _ | show SrcStep _ _ _ _ _ _ _ _ _ _ _ _ _ _ | show LCg.CompEnd _ _ _ _ _ _ _ _ _ _ _ _ _ _ | show wpAny _ _ (pyIter _) _ _ _ | show wpAny _ _ (call (Value.builtin "str.join") _ _) _ _ _ | show wpAny _ _ (call (Value.ref _) _ _) _ _ _ | show wpAny _ _ (exec (Stmt.While _ _ _ _) _) _ _ _ | show wpAny _ _ (binaryOp Operator.LShift _ _) _ _ _ | show wpAny _ _ (binaryOp Operator.Mult _ _) _ _ _ | show wpAny _ _ (binaryOp Operator.Pow _ _) _ _ _ | show wpAny _ _ (eval (Expr.ListComp _ _ _ _) _) _ _ _ | show wpAny _ _ (exec (Stmt.Assign _ (Expr.ListComp _ _ _ _) _) _) _ _ _ | show LoopT _ _ _ _ _ _ _ _ _ _ | show FtPost _ _ _ _ _ _ _ _ _ | show FtEnd _ _ _ _ _ _ _ | show wpAny _ _ (binaryOp Operator.Mod _ _) _ _ _))); first | (k_end; wrow_close) | walk1 | (dsimp only; walk1) | (leave1; walk_say "STEP leave1"; try dsimp only) | fail "no step")))
  try dsimp only
  refine wpC_execs_consA ?_
  refine For_T (h₀ := h₀) ?_
  (repeat' (first | (k_unfold; (try dsimp only)) | ((fail_if_success (with_reducible (first | show InvEndN _ _ _ _ _ _ _ | show KswEnd _ _ _ _ _ _ _ _ _ _ _ _ | show WdEnd _ _ _ _ _ _ _ _ _ _ _ | show SrcStep _ _ _ _ _ _ _ _ _ _ _ _ _ _ | show LCg.CompEnd _ _ _ _ _ _ _ _ _ _ _ _ _ _ | show wpAny _ _ (pyIter _) _ _ _ | show wpAny _ _ (call (Value.builtin "str.join") _ _) _ _ _ | show wpAny _ _ (call (Value.ref _) _ _) _ _ _ | show wpAny _ _ (exec (Stmt.While _ _ _ _) _) _ _ _ | show wpAny _ _ (binaryOp Operator.LShift _ _) _ _ _ | show wpAny _ _ (binaryOp Operator.Mult _ _) _ _ _ | show wpAny _ _ (binaryOp Operator.Pow _ _) _ _ _ | show wpAny _ _ (eval (Expr.ListComp _ _ _ _) _) _ _ _ | show wpAny _ _ (exec (Stmt.Assign _ (Expr.ListComp _ _ _ _) _) _) _ _ _ | show LoopT _ _ _ _ _ _ _ _ _ _ | show FtPost _ _ _ _ _ _ _ _ _ | show FtEnd _ _ _ _ _ _ _ | show wpAny _ _ (binaryOp Operator.Mod _ _) _ _ _))); first | (k_end; wrow_close) | walk1 | (dsimp only; walk1) | (leave1; walk_say "STEP leave1"; try dsimp only) | fail "no step")))
  try dsimp only
  refine c_text (n := n) (Nat.lt_of_lt_of_le (Nat.lt_trans hn2 pow600) (Nat.pow_le_pow_right (by decide) (by decide))) (by assumption) (by assumption) (by assumption) (by assumption) (by assumption) rfl (by ktr_room) (by ktr_units) ?_
  intro xn tn h4 tk4 hxn F4 N4
  have Tn := Told.of hn2 hxn
  clear hxn
  (repeat' (first | (k_unfold; (try dsimp only)) | ((fail_if_success (with_reducible (first | show InvEndN _ _ _ _ _ _ _ | show KswEnd _ _ _ _ _ _ _ _ _ _ _ _ | show WdEnd _ _ _ _ _ _ _ _ _ _ _ | show SrcStep _ _ _ _ _ _ _ _ _ _ _ _ _ _ | show LCg.CompEnd _ _ _ _ _ _ _ _ _ _ _ _ _ _ | show wpAny _ _ (pyIter _) _ _ _ | show wpAny _ _ (call (Value.builtin "str.join") _ _) _ _ _ | show wpAny _ _ (call (Value.ref _) _ _) _ _ _ | show wpAny _ _ (exec (Stmt.While _ _ _ _) _) _ _ _ | show wpAny _ _ (binaryOp Operator.LShift _ _) _ _ _ | show wpAny _ _ (binaryOp Operator.Mult _ _) _ _ _ | show wpAny _ _ (binaryOp Operator.Pow _ _) _ _ _ | show wpAny _ _ (eval (Expr.ListComp _ _ _ _) _) _ _ _ | show wpAny _ _ (exec (Stmt.Assign _ (Expr.ListComp _ _ _ _) _) _) _ _ _ | show LoopT _ _ _ _ _ _ _ _ _ _ | show FtPost _ _ _ _ _ _ _ _ _ | show FtEnd _ _ _ _ _ _ _ | show wpAny _ _ (binaryOp Operator.Mod _ _) _ _ _))); first | (k_end; wrow_close) | walk1 | (dsimp only; walk1) | (leave1; walk_say "STEP leave1"; try dsimp only) | fail "no step")))
  try dsimp only
  rename Fr h₀ L _ _ => F5
  rename News h₀ L _ _ => N5
  rename_i ta _ _ tb _ _ tc _ _ l' _ _
  refine ⟨_, [ta, tb, tc], _, _, [PySem.Str.ofString "one", PySem.Str.ofString "its"], _, rfl, rfl, .head _, F5, N5, ?_, ?_⟩
  · intro t ht u h tk dr own F6 N6
    simp only [List.cons_append, List.nil_append] at N6
    rcases List.mem_cons.mp ht with rfl | ht
    · have Hx := H.more (news' := (l', W.listOf (List.map Value.ref [t, tb, tc]).toArray 0) :: (tc, { cls := Value.type "tuple", data := Data.seq #[Value.int (v : Int) v8, Value.str x v9] }) :: (tb, { cls := Value.type "tuple", data := Data.seq #[Value.int (nr : Int) v5, Value.str xr tr] }) :: (t, { cls := Value.type "tuple", data := Data.seq #[Value.int (n : Int) v3, Value.str xn tn] }) :: (D, LCg.lst [.int d0 u0, .int d1 u1, .int d2 u2, .int d3 u3, .int d4 u4, .int d5 u5]) :: (24, tabObj #[rawInt 46, rawInt 4, .ref c']) :: (c', oc) :: own) (fun q hq => .tail _ (.tail _ (.tail _ (.tail _ (.tail _ (mem_front hq))))))
      (repeat' (first | (k_unfold; (try dsimp only)) | ((fail_if_success (with_reducible (first | show InvEndN _ _ _ _ _ _ _ | show KswEnd _ _ _ _ _ _ _ _ _ _ _ _ | show WdEnd _ _ _ _ _ _ _ _ _ _ _ | show SrcStep _ _ _ _ _ _ _ _ _ _ _ _ _ _ | show LCg.CompEnd _ _ _ _ _ _ _ _ _ _ _ _ _ _ | show wpAny _ _ (pyIter _) _ _ _ | show wpAny _ _ (call (Value.builtin "str.join") _ _) _ _ _ | show wpAny _ _ (call (Value.ref _) _ _) _ _ _ | show wpAny _ _ (exec (Stmt.While _ _ _ _) _) _ _ _ | show wpAny _ _ (binaryOp Operator.LShift _ _) _ _ _ | show wpAny _ _ (binaryOp Operator.Mult _ _) _ _ _ | show wpAny _ _ (binaryOp Operator.Pow _ _) _ _ _ | show wpAny _ _ (eval (Expr.ListComp _ _ _ _) _) _ _ _ | show wpAny _ _ (exec (Stmt.Assign _ (Expr.ListComp _ _ _ _) _) _) _ _ _ | show LoopT _ _ _ _ _ _ _ _ _ _ | show FtPost _ _ _ _ _ _ _ _ _ | show FtEnd _ _ _ _ _ _ _ | show wpAny _ _ (binaryOp Operator.Mod _ _) _ _ _))); first | (k_end; wrow_close) | walk1 | (dsimp only; walk1) | (leave1; walk_say "STEP leave1"; try dsimp only) | fail "no step")))
      try dsimp only
      (repeat' (first | (k_unfold; (try dsimp only)) | ((fail_if_success (with_reducible (first | show InvEndN _ _ _ _ _ _ _ | show KswEnd _ _ _ _ _ _ _ _ _ _ _ _ | show WdEnd _ _ _ _ _ _ _ _ _ _ _ | show SrcStep _ _ _ _ _ _ _ _ _ _ _ _ _ _ | show LCg.CompEnd _ _ _ _ _ _ _ _ _ _ _ _ _ _ | show wpAny _ _ (pyIter _) _ _ _ | show wpAny _ _ (call (Value.builtin "str.join") _ _) _ _ _ | show wpAny _ _ (call (Value.ref _) _ _) _ _ _ | show wpAny _ _ (exec (Stmt.While _ _ _ _) _) _ _ _ | show wpAny _ _ (binaryOp Operator.LShift _ _) _ _ _ | show wpAny _ _ (binaryOp Operator.Mult _ _) _ _ _ | show wpAny _ _ (binaryOp Operator.Pow _ _) _ _ _ | show wpAny _ _ (eval (Expr.ListComp _ _ _ _) _) _ _ _ | show wpAny _ _ (exec (Stmt.Assign _ (Expr.ListComp _ _ _ _) _) _) _ _ _ | show LoopT _ _ _ _ _ _ _ _ _ _ | show FtPost _ _ _ _ _ _ _ _ _ | show FtEnd _ _ _ _ _ _ _ | show wpAny _ _ (binaryOp Operator.Mod _ _) _ _ _))); first | (k_end; wrow_close) | walk1 | (dsimp only; walk1) | (leave1; walk_say "STEP leave1"; try dsimp only) | fail "no step")))
      try dsimp only
      rw [show [d0, d1, d2, d3, d4, d5].getD (Int.toNat 5) 0 = d5 from rfl]
      rename News h₀ L _ _ => N7
      refine c_agree Hx C Tn.pos Tn.len Tn.dig Tn.val (by assumption) (by assumption) (by assumption) N7 (by assumption) rfl (by ktr_room) (by ktr_units) ?_
      intro h8 tk8 dr8 F8 N8
      (repeat' (first | (k_unfold; (try dsimp only)) | ((fail_if_success (with_reducible (first | show InvEndN _ _ _ _ _ _ _ | show KswEnd _ _ _ _ _ _ _ _ _ _ _ _ | show WdEnd _ _ _ _ _ _ _ _ _ _ _ | show SrcStep _ _ _ _ _ _ _ _ _ _ _ _ _ _ | show LCg.CompEnd _ _ _ _ _ _ _ _ _ _ _ _ _ _ | show wpAny _ _ (pyIter _) _ _ _ | show wpAny _ _ (call (Value.builtin "str.join") _ _) _ _ _ | show wpAny _ _ (call (Value.ref _) _ _) _ _ _ | show wpAny _ _ (exec (Stmt.While _ _ _ _) _) _ _ _ | show wpAny _ _ (binaryOp Operator.LShift _ _) _ _ _ | show wpAny _ _ (binaryOp Operator.Mult _ _) _ _ _ | show wpAny _ _ (binaryOp Operator.Pow _ _) _ _ _ | show wpAny _ _ (eval (Expr.ListComp _ _ _ _) _) _ _ _ | show wpAny _ _ (exec (Stmt.Assign _ (Expr.ListComp _ _ _ _) _) _) _ _ _ | show LoopT _ _ _ _ _ _ _ _ _ _ | show FtPost _ _ _ _ _ _ _ _ _ | show FtEnd _ _ _ _ _ _ _ | show wpAny _ _ (binaryOp Operator.Mod _ _) _ _ _))); first | (k_end; wrow_close) | walk1 | (dsimp only; walk1) | (leave1; walk_say "STEP leave1"; try dsimp only) | fail "no step")))
      exact ⟨_, _, _, _, _, rfl, F8, N8, fun p hp => by simpa using hp, fun z hz => stored2 hz⟩
    rcases List.mem_cons.mp ht with rfl | ht
    · have Hx := H.more (news' := (l', W.listOf (List.map Value.ref [ta, t, tc]).toArray 0) :: (tc, { cls := Value.type "tuple", data := Data.seq #[Value.int (v : Int) v8, Value.str x v9] }) :: (t, { cls := Value.type "tuple", data := Data.seq #[Value.int (nr : Int) v5, Value.str xr tr] }) :: (ta, { cls := Value.type "tuple", data := Data.seq #[Value.int (n : Int) v3, Value.str xn tn] }) :: (D, LCg.lst [.int d0 u0, .int d1 u1, .int d2 u2, .int d3 u3, .int d4 u4, .int d5 u5]) :: (24, tabObj #[rawInt 46, rawInt 4, .ref c']) :: (c', oc) :: own) (fun q hq => .tail _ (.tail _ (.tail _ (.tail _ (.tail _ (mem_front hq))))))
      (repeat' (first | (k_unfold; (try dsimp only)) | ((fail_if_success (with_reducible (first | show InvEndN _ _ _ _ _ _ _ | show KswEnd _ _ _ _ _ _ _ _ _ _ _ _ | show WdEnd _ _ _ _ _ _ _ _ _ _ _ | show SrcStep _ _ _ _ _ _ _ _ _ _ _ _ _ _ | show LCg.CompEnd _ _ _ _ _ _ _ _ _ _ _ _ _ _ | show wpAny _ _ (pyIter _) _ _ _ | show wpAny _ _ (call (Value.builtin "str.join") _ _) _ _ _ | show wpAny _ _ (call (Value.ref _) _ _) _ _ _ | show wpAny _ _ (exec (Stmt.While _ _ _ _) _) _ _ _ | show wpAny _ _ (binaryOp Operator.LShift _ _) _ _ _ | show wpAny _ _ (binaryOp Operator.Mult _ _) _ _ _ | show wpAny _ _ (binaryOp Operator.Pow _ _) _ _ _ | show wpAny _ _ (eval (Expr.ListComp _ _ _ _) _) _ _ _ | show wpAny _ _ (exec (Stmt.Assign _ (Expr.ListComp _ _ _ _) _) _) _ _ _ | show LoopT _ _ _ _ _ _ _ _ _ _ | show FtPost _ _ _ _ _ _ _ _ _ | show FtEnd _ _ _ _ _ _ _ | show wpAny _ _ (binaryOp Operator.Mod _ _) _ _ _))); first | (k_end; wrow_close) | walk1 | (dsimp only; walk1) | (leave1; walk_say "STEP leave1"; try dsimp only) | fail "no step")))
      try dsimp only
      (repeat' (first | (k_unfold; (try dsimp only)) | ((fail_if_success (with_reducible (first | show InvEndN _ _ _ _ _ _ _ | show KswEnd _ _ _ _ _ _ _ _ _ _ _ _ | show WdEnd _ _ _ _ _ _ _ _ _ _ _ | show SrcStep _ _ _ _ _ _ _ _ _ _ _ _ _ _ | show LCg.CompEnd _ _ _ _ _ _ _ _ _ _ _ _ _ _ | show wpAny _ _ (pyIter _) _ _ _ | show wpAny _ _ (call (Value.builtin "str.join") _ _) _ _ _ | show wpAny _ _ (call (Value.ref _) _ _) _ _ _ | show wpAny _ _ (exec (Stmt.While _ _ _ _) _) _ _ _ | show wpAny _ _ (binaryOp Operator.LShift _ _) _ _ _ | show wpAny _ _ (binaryOp Operator.Mult _ _) _ _ _ | show wpAny _ _ (binaryOp Operator.Pow _ _) _ _ _ | show wpAny _ _ (eval (Expr.ListComp _ _ _ _) _) _ _ _ | show wpAny _ _ (exec (Stmt.Assign _ (Expr.ListComp _ _ _ _) _) _) _ _ _ | show LoopT _ _ _ _ _ _ _ _ _ _ | show FtPost _ _ _ _ _ _ _ _ _ | show FtEnd _ _ _ _ _ _ _ | show wpAny _ _ (binaryOp Operator.Mod _ _) _ _ _))); first | (k_end; wrow_close) | walk1 | (dsimp only; walk1) | (leave1; walk_say "STEP leave1"; try dsimp only) | fail "no step")))
      try dsimp only
      rw [show [d0, d1, d2, d3, d4, d5].getD (Int.toNat 5) 0 = d5 from rfl]
      rename News h₀ L _ _ => N7
      refine c_agree Hx C Tr.pos Tr.len Tr.dig Tr.val (by assumption) (by assumption) (by assumption) N7 (by assumption) rfl (by ktr_room) (by ktr_units) ?_
      intro h8 tk8 dr8 F8 N8
      (repeat' (first | (k_unfold; (try dsimp only)) | ((fail_if_success (with_reducible (first | show InvEndN _ _ _ _ _ _ _ | show KswEnd _ _ _ _ _ _ _ _ _ _ _ _ | show WdEnd _ _ _ _ _ _ _ _ _ _ _ | show SrcStep _ _ _ _ _ _ _ _ _ _ _ _ _ _ | show LCg.CompEnd _ _ _ _ _ _ _ _ _ _ _ _ _ _ | show wpAny _ _ (pyIter _) _ _ _ | show wpAny _ _ (call (Value.builtin "str.join") _ _) _ _ _ | show wpAny _ _ (call (Value.ref _) _ _) _ _ _ | show wpAny _ _ (exec (Stmt.While _ _ _ _) _) _ _ _ | show wpAny _ _ (binaryOp Operator.LShift _ _) _ _ _ | show wpAny _ _ (binaryOp Operator.Mult _ _) _ _ _ | show wpAny _ _ (binaryOp Operator.Pow _ _) _ _ _ | show wpAny _ _ (eval (Expr.ListComp _ _ _ _) _) _ _ _ | show wpAny _ _ (exec (Stmt.Assign _ (Expr.ListComp _ _ _ _) _) _) _ _ _ | show LoopT _ _ _ _ _ _ _ _ _ _ | show FtPost _ _ _ _ _ _ _ _ _ | show FtEnd _ _ _ _ _ _ _ | show wpAny _ _ (binaryOp Operator.Mod _ _) _ _ _))); first | (k_end; wrow_close) | walk1 | (dsimp only; walk1) | (leave1; walk_say "STEP leave1"; try dsimp only) | fail "no step")))
      exact ⟨_, _, _, _, _, rfl, F8, N8, fun p hp => by simpa using hp, fun z hz => stored2 hz⟩
    obtain rfl := List.mem_singleton.mp ht
    · have Hx := H.more (news' := (l', W.listOf (List.map Value.ref [ta, tb, t]).toArray 0) :: (t, { cls := Value.type "tuple", data := Data.seq #[Value.int (v : Int) v8, Value.str x v9] }) :: (tb, { cls := Value.type "tuple", data := Data.seq #[Value.int (nr : Int) v5, Value.str xr tr] }) :: (ta, { cls := Value.type "tuple", data := Data.seq #[Value.int (n : Int) v3, Value.str xn tn] }) :: (D, LCg.lst [.int d0 u0, .int d1 u1, .int d2 u2, .int d3 u3, .int d4 u4, .int d5 u5]) :: (24, tabObj #[rawInt 46, rawInt 4, .ref c']) :: (c', oc) :: own) (fun q hq => .tail _ (.tail _ (.tail _ (.tail _ (.tail _ (mem_front hq))))))
      (repeat' (first | (k_unfold; (try dsimp only)) | ((fail_if_success (with_reducible (first | show InvEndN _ _ _ _ _ _ _ | show KswEnd _ _ _ _ _ _ _ _ _ _ _ _ | show WdEnd _ _ _ _ _ _ _ _ _ _ _ | show SrcStep _ _ _ _ _ _ _ _ _ _ _ _ _ _ | show LCg.CompEnd _ _ _ _ _ _ _ _ _ _ _ _ _ _ | show wpAny _ _ (pyIter _) _ _ _ | show wpAny _ _ (call (Value.builtin "str.join") _ _) _ _ _ | show wpAny _ _ (call (Value.ref _) _ _) _ _ _ | show wpAny _ _ (exec (Stmt.While _ _ _ _) _) _ _ _ | show wpAny _ _ (binaryOp Operator.LShift _ _) _ _ _ | show wpAny _ _ (binaryOp Operator.Mult _ _) _ _ _ | show wpAny _ _ (binaryOp Operator.Pow _ _) _ _ _ | show wpAny _ _ (eval (Expr.ListComp _ _ _ _) _) _ _ _ | show wpAny _ _ (exec (Stmt.Assign _ (Expr.ListComp _ _ _ _) _) _) _ _ _ | show LoopT _ _ _ _ _ _ _ _ _ _ | show FtPost _ _ _ _ _ _ _ _ _ | show FtEnd _ _ _ _ _ _ _ | show wpAny _ _ (binaryOp Operator.Mod _ _) _ _ _))); first | (k_end; wrow_close) | walk1 | (dsimp only; walk1) | (leave1; walk_say "STEP leave1"; try dsimp only) | fail "no step")))
      try dsimp only
      (repeat' (first | (k_unfold; (try dsimp only)) | ((fail_if_success (with_reducible (first | show InvEndN _ _ _ _ _ _ _ | show KswEnd _ _ _ _ _ _ _ _ _ _ _ _ | show WdEnd _ _ _ _ _ _ _ _ _ _ _ | show SrcStep _ _ _ _ _ _ _ _ _ _ _ _ _ _ | show LCg.CompEnd _ _ _ _ _ _ _ _ _ _ _ _ _ _ | show wpAny _ _ (pyIter _) _ _ _ | show wpAny _ _ (call (Value.builtin "str.join") _ _) _ _ _ | show wpAny _ _ (call (Value.ref _) _ _) _ _ _ | show wpAny _ _ (exec (Stmt.While _ _ _ _) _) _ _ _ | show wpAny _ _ (binaryOp Operator.LShift _ _) _ _ _ | show wpAny _ _ (binaryOp Operator.Mult _ _) _ _ _ | show wpAny _ _ (binaryOp Operator.Pow _ _) _ _ _ | show wpAny _ _ (eval (Expr.ListComp _ _ _ _) _) _ _ _ | show wpAny _ _ (exec (Stmt.Assign _ (Expr.ListComp _ _ _ _) _) _) _ _ _ | show LoopT _ _ _ _ _ _ _ _ _ _ | show FtPost _ _ _ _ _ _ _ _ _ | show FtEnd _ _ _ _ _ _ _ | show wpAny _ _ (binaryOp Operator.Mod _ _) _ _ _))); first | (k_end; wrow_close) | walk1 | (dsimp only; walk1) | (leave1; walk_say "STEP leave1"; try dsimp only) | fail "no step")))
      try dsimp only
      rw [show [d0, d1, d2, d3, d4, d5].getD (Int.toNat 5) 0 = d5 from rfl]
      rename News h₀ L _ _ => N7
      refine c_agree Hx C (by (first | lia | omega)) (by (first | lia | omega)) hdig hval (by assumption) (by assumption) (by assumption) N7 (by assumption) rfl (by ktr_room) (by ktr_units) ?_
      intro h8 tk8 dr8 F8 N8
      (repeat' (first | (k_unfold; (try dsimp only)) | ((fail_if_success (with_reducible (first | show InvEndN _ _ _ _ _ _ _ | show KswEnd _ _ _ _ _ _ _ _ _ _ _ _ | show WdEnd _ _ _ _ _ _ _ _ _ _ _ | show SrcStep _ _ _ _ _ _ _ _ _ _ _ _ _ _ | show LCg.CompEnd _ _ _ _ _ _ _ _ _ _ _ _ _ _ | show wpAny _ _ (pyIter _) _ _ _ | show wpAny _ _ (call (Value.builtin "str.join") _ _) _ _ _ | show wpAny _ _ (call (Value.ref _) _ _) _ _ _ | show wpAny _ _ (exec (Stmt.While _ _ _ _) _) _ _ _ | show wpAny _ _ (binaryOp Operator.LShift _ _) _ _ _ | show wpAny _ _ (binaryOp Operator.Mult _ _) _ _ _ | show wpAny _ _ (binaryOp Operator.Pow _ _) _ _ _ | show wpAny _ _ (eval (Expr.ListComp _ _ _ _) _) _ _ _ | show wpAny _ _ (exec (Stmt.Assign _ (Expr.ListComp _ _ _ _) _) _) _ _ _ | show LoopT _ _ _ _ _ _ _ _ _ _ | show FtPost _ _ _ _ _ _ _ _ _ | show FtEnd _ _ _ _ _ _ _ | show wpAny _ _ (binaryOp Operator.Mod _ _) _ _ _))); first | (k_end; wrow_close) | walk1 | (dsimp only; walk1) | (leave1; walk_say "STEP leave1"; try dsimp only) | fail "no step")))
      exact ⟨_, _, _, _, _, rfl, F8, N8, fun p hp => by simpa using hp, fun z hz => stored2 hz⟩
  · intro u h tk dr F6 N6
    refine wpC_any ?_
    (repeat' (first | (k_unfold; (try dsimp only)) | ((fail_if_success (with_reducible (first | show InvEndN _ _ _ _ _ _ _ | show KswEnd _ _ _ _ _ _ _ _ _ _ _ _ | show WdEnd _ _ _ _ _ _ _ _ _ _ _ | show SrcStep _ _ _ _ _ _ _ _ _ _ _ _ _ _ | show LCg.CompEnd _ _ _ _ _ _ _ _ _ _ _ _ _ _ | show wpAny _ _ (pyIter _) _ _ _ | show wpAny _ _ (call (Value.builtin "str.join") _ _) _ _ _ | show wpAny _ _ (call (Value.ref _) _ _) _ _ _ | show wpAny _ _ (exec (Stmt.While _ _ _ _) _) _ _ _ | show wpAny _ _ (binaryOp Operator.LShift _ _) _ _ _ | show wpAny _ _ (binaryOp Operator.Mult _ _) _ _ _ | show wpAny _ _ (binaryOp Operator.Pow _ _) _ _ _ | show wpAny _ _ (eval (Expr.ListComp _ _ _ _) _) _ _ _ | show wpAny _ _ (exec (Stmt.Assign _ (Expr.ListComp _ _ _ _) _) _) _ _ _ | show LoopT _ _ _ _ _ _ _ _ _ _ | show FtPost _ _ _ _ _ _ _ _ _ | show FtEnd _ _ _ _ _ _ _ | show wpAny _ _ (binaryOp Operator.Mod _ _) _ _ _))); first | (k_end; wrow_close) | walk1 | (dsimp only; walk1) | (leave1; walk_say "STEP leave1"; try dsimp only) | fail "no step")))
    exact hret _ _ _ _ _ F6 (fun q hq => N6 q (by rw [List.mem_singleton.mp hq]; exact .tail _ (.tail _ (.tail _ (.tail _ (.tail _ (.head _)))))))

end
end Mine
end
section
theorem Mine.reset_D6 : True := by
  w_top off
  exact trivial
open PySem PySem.W PySem.NumText PyProof.Rows
set_option maxRecDepth 100000
set_option linter.unusedVariables false
namespace Mine
theorem fill_26 (w : World) (h : Heap) : Frag.In (Mine.Head.hd.heap_39 w.params) h → Challenge.rw_lo0013_01.row.prog = Challenge.rw_lo0013_01.row.prog := by
  k_fill
  intros; rfl
section
variable {w : World} {p : Program} {loose : List Str} {mean : ExcName → Option Value} {mg mb : Str → Option Value} {dp un : Nat} {gd : Option (List Code)} {cn : Str} {cs : Scope} {a : Addr} {ccd : Value} {cl : List (Str × Addr)} {outer : List Env} {A₀ : Around} {base h₀ : Heap} {L : Addr} {m : Str → Option Value} {news : List (Addr × Obj)} {s : Shared} {Q E : Value → Shared → Prop}

theorem two_or {wv : Int} {ns : List Int} (h : (wv ≤ 1000 ∧ ns = []) ∨ (1000 < wv ∧ ((wv / 2 + 1 ≤ 1000 ∧ ns = [wv / 2]) ∨ (1000 < wv / 2 ∧ (ns = [wv / 2 / 2, wv / 2] ∨ ns = [wv / 2 / 2, wv / 2 / 2 + 1, wv / 2]))))) (h1 : 1000 < wv) (h2 : 1000 < wv / 2) :
    ns = [wv / 2 / 2, wv / 2] ∨ ns = [wv / 2 / 2, wv / 2 / 2 + 1, wv / 2] := by
  rcases h with h | ⟨_, h | h⟩
  · (first | lia | omega)
  · (first | lia | omega)
  · exact h.2
theorem stored3 {a b c z : PySem.Str} {o1 o2 o3 o4 o5 : Option Value} (hz : [a, b, c].contains z = false) : (if [c].contains z then o1 else if z = b then o2 else if z = a then o3 else if [a, b, c].contains z then o4 else o5) = o5 := by
  have h := hz
  simp only [List.contains_cons, List.contains_nil, Bool.or_false, Bool.or_eq_false_iff, beq_eq_false_iff_ne, ne_eq] at h
  have h1 : [c].contains z = false := by simp [h.2.2]
  rw [h1, if_neg Bool.false_ne_true, if_neg h.2.1, if_neg h.1, hz, if_neg Bool.false_ne_true]
theorem stored1 {c z : PySem.Str} {o1 o2 o3 : Option Value} (hz : [c].contains z = false) : (if z = c then o1 else if [c].contains z then o2 else o3) = o3 := by
  have h := hz
  simp only [List.contains_cons, List.contains_nil, Bool.or_false, beq_eq_false_iff_ne, ne_eq] at h
  rw [if_neg h, hz, if_neg Bool.false_ne_true]
theorem one_noughts (kn : Nat) : ([49] ++ List.replicate kn 48).filter (· != 95) = [49] ++ List.replicate kn 48 ∧ (∀ c ∈ [49] ++ List.replicate kn 48, c < 128) ∧ (∀ c, ([49] ++ List.replicate kn 48).getLast? = some c → spc c = false) ∧
    AllDigits ([49] ++ List.replicate kn 48) ∧ ([49] ++ List.replicate kn 48).length = kn + 1 ∧ digitsVal ([49] ++ List.replicate kn 48) = 10 ^ kn := by
  have all : ∀ c ∈ [49] ++ List.replicate kn 48, c = 49 ∨ c = 48 := by
    intro c hc
    rcases List.mem_append.mp hc with hc | hc
    · exact .inl (List.mem_singleton.mp hc)
    · exact .inr (List.mem_replicate.mp hc).2
  refine ⟨?_, ?_, ?_, ?_, ?_, ?_⟩
  · exact List.filter_eq_self.mpr fun d h => bne_iff_ne.mpr (by have := all d h; (first | lia | omega))
  · intro c hc; have := all c hc; (first | lia | omega)
  · intro c hc
    rcases all c (List.mem_of_getLast? hc) with rfl | rfl <;> decide
  · intro c hc
    have := all c hc
    show 48 ≤ c ∧ c ≤ 57
    (first | lia | omega)
  · rw [List.length_append, List.length_replicate, List.length_singleton]; (first | lia | omega)
  · rw [val_append, val_zeros, List.length_replicate, show digitsVal [49] = 1 from rfl, Nat.one_mul, Nat.add_zero]
theorem ten_int (kn : Nat) : (5 : Int) ^ kn * 2 ^ kn = ((10 ^ kn : Nat) : Int) := by
  rw [ten_pow]; push_cast; rfl
set_option maxHeartbeats 8000000 in
theorem law6 {params : Arguments} {body : List Stmt} {scope : Scope} (hdef : lawOf = (params, body, scope)) {D : Addr} {d0 d1 d2 d3 d4 d5 : Int} {u0 u1 u2 u3 u4 u5 : Tok} {n nr k : Nat} {v1 v2 v3 v4 v5 : Tok} (hk4 : k = 4096) (hn2 : n < 2 ^ 600) (hnr2 : nr < 2 ^ 600) {v : Nat} {x : PySem.Str} {v8 v9 : Tok} {c' : Addr} {oc : Obj} (H : TabHit [(24, tabObj #[rawInt 46, rawInt 4, .ref c']), (c', oc)] c') (hx1 : 2050 ≤ x.length) (hx2 : x.length ≤ 2400) (hdig : AllDigits (sg x)) (hval : digitsVal (sg x) = v)
    (C : CodeHd h₀ 28 24)
    (B : Below A₀ h₀ [] h₀) (F : Fr h₀ L s.heap (kstB m [(PySem.Str.ofString "draws", .ref D), (PySem.Str.ofString "threes", .int ((rep 3 k : Nat) : Int) v1), (PySem.Str.ofString "eights", .int ((rep 8 k : Nat) : Int) v2), (PySem.Str.ofString "number", .int (n : Int) v3), (PySem.Str.ofString "packed", .int ((bcd n : Nat) : Int) v4), (PySem.Str.ofString "near", .int (nr : Int) v5), (PySem.Str.ofString "wide", .int (v : Int) v8), (PySem.Str.ofString "text", .str x v9)])) (X : Frag.In (Mine.Head.hd.heap_39 w.params) h₀)
    (N : News h₀ L s.heap [(D, LCg.lst [.int d0 u0, .int d1 u1, .int d2 u2, .int d3 u3, .int d4 u4, .int d5 u5]), (24, tabObj #[rawInt 46, rawInt 4, .ref c']), (c', oc)]) (T : Top p loose mean mg mb h₀) (hd : dp + 20 < recursionLimit) (hu : un + 100 < cLine) {Q : Flow → Shared → Prop}
    (hret : ∀ h' tk' dr' m' c', Fr h₀ L h' m' → News h₀ L h' [(24, tabObj #[rawInt 46, rawInt 4, .ref c'])] → Q (.ret (.bool true)) { s with heap := h', toks := tk', drawn := dr' }) :
    wpC (model Challenge.rw_lo0013_01.row.prog w) (ktrTop dp un gd (PySem.Str.ofString "law") scope L a ccd [(PySem.Str.ofString "cells", L + 1)] []) (execs (body.drop 15) (envX (PySem.Str.ofString "law") scope L a ccd [(PySem.Str.ofString "cells", L + 1)])) Q (fun _ _ => False) s := by
  have e : lawOf = (_, [_, _, _, _, _, _, _, _, _, _, _, _, _, _, _, _, _, _, _], _) := rfl
  rw [e] at hdef
  have hdef' := hdef
  cases hdef
  dsimp only [List.drop]
  refine wpC_execs_consA ?_
  refine For_N (h₀ := h₀) rfl rfl ?_
  (repeat' (first | (k_unfold; (try dsimp only)) | ((fail_if_success (with_reducible (first | show InvEndN _ _ _ _ _ _ _ | show KswEnd _ _ _ _ _ _ _ _ _ _ _ _ | show WdEnd _ _ _ _ _ _ _ _ _ _ _ | show SrcStep _ _ _ _ _ _ _ _ _ _ _ _ _ _ | show LCg.CompEnd _ _ _ _ _ _ _ _ _ _ _ _ _ _ | show wpAny _ _ (pyIter _) _ _ _ | show wpAny _ _ (call (Value.builtin "str.join") _ _) _ _ _ | show wpAny _ _ (call (Value.ref _) _ _) _ _ _ | show wpAny _ _ (exec (Stmt.While _ _ _ _) _) _ _ _ | show wpAny _ _ (binaryOp Operator.LShift _ _) _ _ _ | show wpAny _ _ (binaryOp Operator.Mult _ _) _ _ _ | show wpAny _ _ (binaryOp Operator.Pow _ _) _ _ _ | show wpAny _ _ (eval (Expr.ListComp _ _ _ _) _) _ _ _ | show wpAny _ _ (exec (Stmt.Assign _ (Expr.ListComp _ _ _ _) _) _) _ _ _ | show wpAny _ _ (exec (Stmt.For _ _ _ _ _) _) _ _ _ | show LoopN _ _ _ _ _ _ _ _ _ _ | show FtPost _ _ _ _ _ _ _ _ _ | show FtEnd _ _ _ _ _ _ _ | show SrcDict _ _ _ _ _ _ _ _ _ _ _ _ _ _ | show wpAny _ _ (binaryOp Operator.Add (Value.str _ _) (Value.str _ _)) _ _ _ | show wpAny _ _ (subscriptTail _ _ (Value.ref _) (Value.int _ _)) _ _ _))); first | (k_end; wrow_close) | walk1 | (dsimp only; walk1) | (leave1; walk_say "STEP leave1"; try dsimp only) | fail "no step")))
  try dsimp only
  rename IsRange _ _ _ _ _ _ _ _ => rg
  rename News h₀ L _ _ => N1
  refine loopN_range (n := 4) [(D, LCg.lst [.int d0 u0, .int d1 u1, .int d2 u2, .int d3 u3, .int d4 u4, .int d5 u5]), (24, tabObj #[rawInt 46, rawInt 4, .ref c']), (c', oc)] [PySem.Str.ofString "size", PySem.Str.ofString "powers", PySem.Str.ofString "k"] rfl rg (small_one (by (first | lia | omega)) (by (first | lia | omega)) (by (first | lia | omega)) (by (first | lia | omega))) (by rw [rangeSize_nat]; (first | lia | omega)) (by assumption) N1 rfl ?_ ?_
  · intro i t s1 u h tk dr own hg ho hi F2 N2
    simp only [List.cons_append, List.nil_append] at N2
    (repeat' (first | (k_unfold; (try dsimp only)) | ((fail_if_success (with_reducible (first | show InvEndN _ _ _ _ _ _ _ | show KswEnd _ _ _ _ _ _ _ _ _ _ _ _ | show WdEnd _ _ _ _ _ _ _ _ _ _ _ | show SrcStep _ _ _ _ _ _ _ _ _ _ _ _ _ _ | show LCg.CompEnd _ _ _ _ _ _ _ _ _ _ _ _ _ _ | show wpAny _ _ (pyIter _) _ _ _ | show wpAny _ _ (call (Value.builtin "str.join") _ _) _ _ _ | show wpAny _ _ (call (Value.ref _) _ _) _ _ _ | show wpAny _ _ (exec (Stmt.While _ _ _ _) _) _ _ _ | show wpAny _ _ (binaryOp Operator.LShift _ _) _ _ _ | show wpAny _ _ (binaryOp Operator.Mult _ _) _ _ _ | show wpAny _ _ (binaryOp Operator.Pow _ _) _ _ _ | show wpAny _ _ (eval (Expr.ListComp _ _ _ _) _) _ _ _ | show wpAny _ _ (exec (Stmt.Assign _ (Expr.ListComp _ _ _ _) _) _) _ _ _ | show wpAny _ _ (exec (Stmt.For _ _ _ _ _) _) _ _ _ | show LoopN _ _ _ _ _ _ _ _ _ _ | show FtPost _ _ _ _ _ _ _ _ _ | show FtEnd _ _ _ _ _ _ _ | show SrcDict _ _ _ _ _ _ _ _ _ _ _ _ _ _ | show wpAny _ _ (binaryOp Operator.Add (Value.str _ _) (Value.str _ _)) _ _ _ | show wpAny _ _ (subscriptTail _ _ (Value.ref _) (Value.int _ _)) _ _ _))); first | (k_end; wrow_close) | walk1 | (dsimp only; walk1) | (leave1; walk_say "STEP leave1"; try dsimp only) | fail "no step")))
    try dsimp only
    refine c_powers (wv := (x.length : Int) + (i : Int)) (mt := 1000) ⟨by (first | lia | omega), by (first | lia | omega), by (first | lia | omega)⟩ (.inl (by (first | lia | omega))) (by (first | lia | omega)) (by assumption) (by assumption) (by assumption) (by assumption) (by assumption) rfl (by ktr_room) (by ktr_units) ?_
    intro Dp od kvs ns h3 tk3 dr3 F3 N3 l3 hDm hod hP hns
    (repeat' (first | (k_unfold; (try dsimp only)) | ((fail_if_success (with_reducible (first | show InvEndN _ _ _ _ _ _ _ | show KswEnd _ _ _ _ _ _ _ _ _ _ _ _ | show WdEnd _ _ _ _ _ _ _ _ _ _ _ | show SrcStep _ _ _ _ _ _ _ _ _ _ _ _ _ _ | show LCg.CompEnd _ _ _ _ _ _ _ _ _ _ _ _ _ _ | show wpAny _ _ (pyIter _) _ _ _ | show wpAny _ _ (call (Value.builtin "str.join") _ _) _ _ _ | show wpAny _ _ (call (Value.ref _) _ _) _ _ _ | show wpAny _ _ (exec (Stmt.While _ _ _ _) _) _ _ _ | show wpAny _ _ (binaryOp Operator.LShift _ _) _ _ _ | show wpAny _ _ (binaryOp Operator.Mult _ _) _ _ _ | show wpAny _ _ (binaryOp Operator.Pow _ _) _ _ _ | show wpAny _ _ (eval (Expr.ListComp _ _ _ _) _) _ _ _ | show wpAny _ _ (exec (Stmt.Assign _ (Expr.ListComp _ _ _ _) _) _) _ _ _ | show wpAny _ _ (exec (Stmt.For _ _ _ _ _) _) _ _ _ | show LoopN _ _ _ _ _ _ _ _ _ _ | show FtPost _ _ _ _ _ _ _ _ _ | show FtEnd _ _ _ _ _ _ _ | show SrcDict _ _ _ _ _ _ _ _ _ _ _ _ _ _ | show wpAny _ _ (binaryOp Operator.Add (Value.str _ _) (Value.str _ _)) _ _ _ | show wpAny _ _ (subscriptTail _ _ (Value.ref _) (Value.int _ _)) _ _ _))); first | (k_end; wrow_close) | walk1 | (dsimp only; walk1) | (leave1; walk_say "STEP leave1"; try dsimp only) | fail "no step")))
    try dsimp only
    refine ListComp_dict (by assumption) (by with_unfolding_all rfl) (by decide) (by rfl) (by decide) (by rfl) ?_
    (repeat' (first | (k_unfold; (try dsimp only)) | ((fail_if_success (with_reducible (first | show InvEndN _ _ _ _ _ _ _ | show KswEnd _ _ _ _ _ _ _ _ _ _ _ _ | show WdEnd _ _ _ _ _ _ _ _ _ _ _ | show SrcStep _ _ _ _ _ _ _ _ _ _ _ _ _ _ | show LCg.CompEnd _ _ _ _ _ _ _ _ _ _ _ _ _ _ | show wpAny _ _ (pyIter _) _ _ _ | show wpAny _ _ (call (Value.builtin "str.join") _ _) _ _ _ | show wpAny _ _ (call (Value.ref _) _ _) _ _ _ | show wpAny _ _ (exec (Stmt.While _ _ _ _) _) _ _ _ | show wpAny _ _ (binaryOp Operator.LShift _ _) _ _ _ | show wpAny _ _ (binaryOp Operator.Mult _ _) _ _ _ | show wpAny _ _ (binaryOp Operator.Pow _ _) _ _ _ | show wpAny _ _ (eval (Expr.ListComp _ _ _ _) _) _ _ _ | show wpAny _ _ (exec (Stmt.Assign _ (Expr.ListComp _ _ _ _) _) _) _ _ _ | show wpAny _ _ (exec (Stmt.For _ _ _ _ _) _) _ _ _ | show LoopN _ _ _ _ _ _ _ _ _ _ | show FtPost _ _ _ _ _ _ _ _ _ | show FtEnd _ _ _ _ _ _ _ | show SrcDict _ _ _ _ _ _ _ _ _ _ _ _ _ _ | show wpAny _ _ (binaryOp Operator.Add (Value.str _ _) (Value.str _ _)) _ _ _ | show wpAny _ _ (subscriptTail _ _ (Value.ref _) (Value.int _ _)) _ _ _))); first | (k_end; wrow_close) | walk1 | (dsimp only; walk1) | (leave1; walk_say "STEP leave1"; try dsimp only) | fail "no step")))
    try dsimp only
    have hns' := two_or hns (by (first | lia | omega)) (by (first | lia | omega))
    clear hns
    have hkl : kvs.length ≤ 3 := by
      have e := congrArg List.length hP.1
      rw [List.length_map] at e
      rcases hns' with q | q <;> rw [q] at e <;> simp at e <;> (first | lia | omega)
    rename News h₀ L _ _ => N4
    refine SrcDict.intro hDm rfl (by assumption) N4 (.head _) hod (by rw [sizeLine_eq]; (first | lia | omega)) ?_
    intro g4
    refine kcf_rest (ks := ns) (fun k => k) (by rw [← hP.1, List.length_map]) ?_ ?_ ?_
    · rintro j v hj ⟨k, y, hk, hv⟩
      obtain ⟨t, rfl⟩ := Value.isInt_shape hv
      exact ⟨k, t, by rw [← hP.1, List.getElem?_map, hk]; rfl, rfl⟩
    · intro k2 t2 I2 oI2 C2 oC2 D2 m2 ys2 h4 tk4 E4 hk2 hC4 hx4 F4 N4 off4 ne4 mk4
      dsimp only at F4 N4 ⊢
      (repeat' (first | (k_unfold; (try dsimp only)) | ((fail_if_success (with_reducible (first | show InvEndN _ _ _ _ _ _ _ | show KswEnd _ _ _ _ _ _ _ _ _ _ _ _ | show WdEnd _ _ _ _ _ _ _ _ _ _ _ | show SrcStep _ _ _ _ _ _ _ _ _ _ _ _ _ _ | show LCg.CompEnd _ _ _ _ _ _ _ _ _ _ _ _ _ _ | show wpAny _ _ (pyIter _) _ _ _ | show wpAny _ _ (call (Value.builtin "str.join") _ _) _ _ _ | show wpAny _ _ (call (Value.ref _) _ _) _ _ _ | show wpAny _ _ (exec (Stmt.While _ _ _ _) _) _ _ _ | show wpAny _ _ (binaryOp Operator.LShift _ _) _ _ _ | show wpAny _ _ (binaryOp Operator.Mult _ _) _ _ _ | show wpAny _ _ (binaryOp Operator.Pow _ _) _ _ _ | show wpAny _ _ (eval (Expr.ListComp _ _ _ _) _) _ _ _ | show wpAny _ _ (exec (Stmt.Assign _ (Expr.ListComp _ _ _ _) _) _) _ _ _ | show wpAny _ _ (exec (Stmt.For _ _ _ _ _) _) _ _ _ | show LoopN _ _ _ _ _ _ _ _ _ _ | show FtPost _ _ _ _ _ _ _ _ _ | show FtEnd _ _ _ _ _ _ _ | show SrcDict _ _ _ _ _ _ _ _ _ _ _ _ _ _ | show wpAny _ _ (binaryOp Operator.Add (Value.str _ _) (Value.str _ _)) _ _ _ | show wpAny _ _ (subscriptTail _ _ (Value.ref _) (Value.int _ _)) _ _ _))); first | (k_end; wrow_close) | walk1 | (dsimp only; walk1) | (leave1; walk_say "STEP leave1"; try dsimp only) | fail "no step")))
      exact LCg.CompEnd.intro F4 N4 _ (fun _ hp => hp) off4 (.head _) ⟨rfl, _, rfl⟩
    · intro ys hys D2 h5 tk5 F5 N5 off5
      rw [List.map_id'] at hys
      dsimp only at F5 N5 ⊢
      (repeat' (first | (k_unfold; (try dsimp only)) | ((fail_if_success (with_reducible (first | show InvEndN _ _ _ _ _ _ _ | show KswEnd _ _ _ _ _ _ _ _ _ _ _ _ | show WdEnd _ _ _ _ _ _ _ _ _ _ _ | show SrcStep _ _ _ _ _ _ _ _ _ _ _ _ _ _ | show LCg.CompEnd _ _ _ _ _ _ _ _ _ _ _ _ _ _ | show wpAny _ _ (pyIter _) _ _ _ | show wpAny _ _ (call (Value.builtin "str.join") _ _) _ _ _ | show wpAny _ _ (call (Value.ref _) _ _) _ _ _ | show wpAny _ _ (exec (Stmt.While _ _ _ _) _) _ _ _ | show wpAny _ _ (binaryOp Operator.LShift _ _) _ _ _ | show wpAny _ _ (binaryOp Operator.Mult _ _) _ _ _ | show wpAny _ _ (binaryOp Operator.Pow _ _) _ _ _ | show wpAny _ _ (eval (Expr.ListComp _ _ _ _) _) _ _ _ | show wpAny _ _ (exec (Stmt.Assign _ (Expr.ListComp _ _ _ _) _) _) _ _ _ | show wpAny _ _ (exec (Stmt.For _ _ _ _ _) _) _ _ _ | show LoopN _ _ _ _ _ _ _ _ _ _ | show FtPost _ _ _ _ _ _ _ _ _ | show FtEnd _ _ _ _ _ _ _ | show SrcDict _ _ _ _ _ _ _ _ _ _ _ _ _ _ | show wpAny _ _ (binaryOp Operator.Add (Value.str _ _) (Value.str _ _)) _ _ _ | show wpAny _ _ (subscriptTail _ _ (Value.ref _) (Value.int _ _)) _ _ _))); first | (k_end; wrow_close) | walk1 | (dsimp only; walk1) | (leave1; walk_say "STEP leave1"; try dsimp only) | fail "no step")))
      have hnl : ns.length ≤ 3 := by rw [← hP.1, List.length_map]; exact hkl
      have hlast : ns.drop (ns.length - 1) = [((x.length : Int) + (i : Int)) / 2] := by rcases hns' with q | q <;> rw [q] <;> rfl
      try dsimp only
      refine kmk_slice_ints (s := { heap := h5, gens := _, drawn := _, toks := _, os := _ }) F5 N5 (N5.isList (.head _)) (IsPart.int _ _) IsPart.none hys (kmk_from_neg hys (by decide)) rfl ?_ (by with_unfolding_all rfl) (by intro _; with_unfolding_all rfl) (by rw [List.size_toArray, hys.length, sizeLine_eq]; (first | lia | omega))
      intro D6 ws6 h6 F6 N6 l6 hI6 hC6 hL6
      rw [show (-(-1 : Int)).toNat = 1 from rfl, hlast] at hI6 hC6
      (repeat' (first | (k_unfold; (try dsimp only)) | ((fail_if_success (with_reducible (first | show InvEndN _ _ _ _ _ _ _ | show KswEnd _ _ _ _ _ _ _ _ _ _ _ _ | show WdEnd _ _ _ _ _ _ _ _ _ _ _ | show SrcStep _ _ _ _ _ _ _ _ _ _ _ _ _ _ | show LCg.CompEnd _ _ _ _ _ _ _ _ _ _ _ _ _ _ | show wpAny _ _ (pyIter _) _ _ _ | show wpAny _ _ (call (Value.builtin "str.join") _ _) _ _ _ | show wpAny _ _ (call (Value.ref _) _ _) _ _ _ | show wpAny _ _ (exec (Stmt.While _ _ _ _) _) _ _ _ | show wpAny _ _ (binaryOp Operator.LShift _ _) _ _ _ | show wpAny _ _ (binaryOp Operator.Mult _ _) _ _ _ | show wpAny _ _ (binaryOp Operator.Pow _ _) _ _ _ | show wpAny _ _ (eval (Expr.ListComp _ _ _ _) _) _ _ _ | show wpAny _ _ (exec (Stmt.Assign _ (Expr.ListComp _ _ _ _) _) _) _ _ _ | show wpAny _ _ (exec (Stmt.For _ _ _ _ _) _) _ _ _ | show LoopN _ _ _ _ _ _ _ _ _ _ | show FtPost _ _ _ _ _ _ _ _ _ | show FtEnd _ _ _ _ _ _ _ | show SrcDict _ _ _ _ _ _ _ _ _ _ _ _ _ _ | show wpAny _ _ (binaryOp Operator.Add (Value.str _ _) (Value.str _ _)) _ _ _ | show wpAny _ _ (subscriptTail _ _ (Value.ref _) (Value.int _ _)) _ _ _))); first | (k_end; wrow_close) | walk1 | (dsimp only; walk1) | (leave1; walk_say "STEP leave1"; try dsimp only) | fail "no step")))
      · rename Fr h₀ L _ _ => F7
        rename News h₀ L _ _ => N7
        try dsimp only
        refine For_N (h₀ := h₀) rfl rfl ?_
        (repeat' (first | (k_unfold; (try dsimp only)) | ((fail_if_success (with_reducible (first | show InvEndN _ _ _ _ _ _ _ | show KswEnd _ _ _ _ _ _ _ _ _ _ _ _ | show WdEnd _ _ _ _ _ _ _ _ _ _ _ | show SrcStep _ _ _ _ _ _ _ _ _ _ _ _ _ _ | show LCg.CompEnd _ _ _ _ _ _ _ _ _ _ _ _ _ _ | show wpAny _ _ (pyIter _) _ _ _ | show wpAny _ _ (call (Value.builtin "str.join") _ _) _ _ _ | show wpAny _ _ (call (Value.ref _) _ _) _ _ _ | show wpAny _ _ (exec (Stmt.While _ _ _ _) _) _ _ _ | show wpAny _ _ (binaryOp Operator.LShift _ _) _ _ _ | show wpAny _ _ (binaryOp Operator.Mult _ _) _ _ _ | show wpAny _ _ (binaryOp Operator.Pow _ _) _ _ _ | show wpAny _ _ (eval (Expr.ListComp _ _ _ _) _) _ _ _ | show wpAny _ _ (exec (Stmt.Assign _ (Expr.ListComp _ _ _ _) _) _) _ _ _ | show wpAny _ _ (exec (Stmt.For _ _ _ _ _) _) _ _ _ | show LoopN _ _ _ _ _ _ _ _ _ _ | show FtPost _ _ _ _ _ _ _ _ _ | show FtEnd _ _ _ _ _ _ _ | show SrcDict _ _ _ _ _ _ _ _ _ _ _ _ _ _ | show wpAny _ _ (binaryOp Operator.Add (Value.str _ _) (Value.str _ _)) _ _ _ | show wpAny _ _ (subscriptTail _ _ (Value.ref _) (Value.int _ _)) _ _ _))); first | (k_end; wrow_close) | walk1 | (dsimp only; walk1) | (leave1; walk_say "STEP leave1"; try dsimp only) | fail "no step")))
        try dsimp only
        refine loopN_dict ((Dp, od) :: (D, LCg.lst [.int d0 u0, .int d1 u1, .int d2 u2, .int d3 u3, .int d4 u4, .int d5 u5]) :: (24, tabObj #[rawInt 46, rawInt 4, .ref c']) :: (c', oc) :: own) [PySem.Str.ofString "k"] hDm rfl F7 (fun q hq => N7 q (.tail _ (.tail _ (.tail _ hq)))) (.head _) hod rfl ?_ ?_
        · intro j kk vv y s2 uu h8 tk8 dr8 own2 hg2 ho2 hkv hv F8 N8
          simp only [List.cons_append] at N8
          obtain ⟨tv, rfl⟩ := Value.isInt_shape hv
          have hmem := List.mem_of_getElem? hkv
          have hkn : kk ∈ ns := by rw [← hP.1]; exact List.mem_map_of_mem hmem
          have hk0 := (hP.2 _ hmem).1
          dsimp only at hk0
          have hk9 : kk ≤ 1300 := by
            have : kk ≤ ((x.length : Int) + (i : Int)) / 2 := by
              rcases hns' with q | q <;> rw [q] at hkn <;> simp only [List.mem_cons, List.not_mem_nil, or_false] at hkn <;> (first | lia | omega)
            (first | lia | omega)
          obtain ⟨kn, rfl⟩ := Int.eq_ofNat_of_zero_le hk0
          have Hx := H.more (news' := (Dp, od) :: (D, LCg.lst [.int d0 u0, .int d1 u1, .int d2 u2, .int d3 u3, .int d4 u4, .int d5 u5]) :: (24, tabObj #[rawInt 46, rawInt 4, .ref c']) :: (c', oc) :: (own ++ own2)) (fun q hq => .tail _ (.tail _ (mem_front hq)))
          (repeat' (first | (k_unfold; (try dsimp only)) | ((fail_if_success (with_reducible (first | show InvEndN _ _ _ _ _ _ _ | show KswEnd _ _ _ _ _ _ _ _ _ _ _ _ | show WdEnd _ _ _ _ _ _ _ _ _ _ _ | show SrcStep _ _ _ _ _ _ _ _ _ _ _ _ _ _ | show LCg.CompEnd _ _ _ _ _ _ _ _ _ _ _ _ _ _ | show wpAny _ _ (pyIter _) _ _ _ | show wpAny _ _ (call (Value.builtin "str.join") _ _) _ _ _ | show wpAny _ _ (call (Value.ref _) _ _) _ _ _ | show wpAny _ _ (exec (Stmt.While _ _ _ _) _) _ _ _ | show wpAny _ _ (binaryOp Operator.LShift _ _) _ _ _ | show wpAny _ _ (binaryOp Operator.Mult _ _) _ _ _ | show wpAny _ _ (binaryOp Operator.Pow _ _) _ _ _ | show wpAny _ _ (eval (Expr.ListComp _ _ _ _) _) _ _ _ | show wpAny _ _ (exec (Stmt.Assign _ (Expr.ListComp _ _ _ _) _) _) _ _ _ | show wpAny _ _ (exec (Stmt.For _ _ _ _ _) _) _ _ _ | show LoopN _ _ _ _ _ _ _ _ _ _ | show FtPost _ _ _ _ _ _ _ _ _ | show FtEnd _ _ _ _ _ _ _ | show SrcDict _ _ _ _ _ _ _ _ _ _ _ _ _ _ | show wpAny _ _ (binaryOp Operator.Add (Value.str _ _) (Value.str _ _)) _ _ _ | show wpAny _ _ (subscriptTail _ _ (Value.ref _) (Value.int _ _)) _ _ _))); first | (k_end; wrow_close) | walk1 | (dsimp only; walk1) | (leave1; walk_say "STEP leave1"; try dsimp only) | fail "no step")))
          try dsimp only
          refine SB.mul (mulOk_of 1 1300 (by decide) (by (first | lia | omega)) (by (first | lia | omega)) (by decide) (by decide)) ?_
          intro t9 k9
          have hz : sg (Txt.mul (PySem.Str.ofString "0") (kn : Int)) = List.replicate kn 48 := by
            rw [show PySem.Str.ofString "0" = ⟨#[48]⟩ from by decide]
            exact (mul_one_list 48 kn).trans (by rw [Int.toNat_natCast])
          have hzl : (Txt.mul (PySem.Str.ofString "0") (kn : Int)).length = kn := by rw [← sg_len, hz, List.length_replicate]
          generalize Txt.mul (PySem.Str.ofString "0") (kn : Int) = zs at hz hzl ⊢
          (repeat' (first | (k_unfold; (try dsimp only)) | ((fail_if_success (with_reducible (first | show InvEndN _ _ _ _ _ _ _ | show KswEnd _ _ _ _ _ _ _ _ _ _ _ _ | show WdEnd _ _ _ _ _ _ _ _ _ _ _ | show SrcStep _ _ _ _ _ _ _ _ _ _ _ _ _ _ | show LCg.CompEnd _ _ _ _ _ _ _ _ _ _ _ _ _ _ | show wpAny _ _ (pyIter _) _ _ _ | show wpAny _ _ (call (Value.builtin "str.join") _ _) _ _ _ | show wpAny _ _ (call (Value.ref _) _ _) _ _ _ | show wpAny _ _ (exec (Stmt.While _ _ _ _) _) _ _ _ | show wpAny _ _ (binaryOp Operator.LShift _ _) _ _ _ | show wpAny _ _ (binaryOp Operator.Mult _ _) _ _ _ | show wpAny _ _ (binaryOp Operator.Pow _ _) _ _ _ | show wpAny _ _ (eval (Expr.ListComp _ _ _ _) _) _ _ _ | show wpAny _ _ (exec (Stmt.Assign _ (Expr.ListComp _ _ _ _) _) _) _ _ _ | show wpAny _ _ (exec (Stmt.For _ _ _ _ _) _) _ _ _ | show LoopN _ _ _ _ _ _ _ _ _ _ | show FtPost _ _ _ _ _ _ _ _ _ | show FtEnd _ _ _ _ _ _ _ | show SrcDict _ _ _ _ _ _ _ _ _ _ _ _ _ _ | show wpAny _ _ (binaryOp Operator.Add (Value.str _ _) (Value.str _ _)) _ _ _ | show wpAny _ _ (subscriptTail _ _ (Value.ref _) (Value.int _ _)) _ _ _))); first | (k_end; wrow_close) | walk1 | (dsimp only; walk1) | (leave1; walk_say "STEP leave1"; try dsimp only) | fail "no step")))
          try dsimp only
          refine SB.add ?_ (by rw [sizeLine_eq, show (PySem.Str.ofString "1").length = 1 from by decide]; (first | lia | omega))
          intro t10 k10
          have hy : sg (PySem.Str.ofString "1" ++ zs) = [49] ++ List.replicate kn 48 := by rw [sg_append, hz]; rfl
          have hyl : (PySem.Str.ofString "1" ++ zs).length = kn + 1 := by rw [← sg_len, hy, List.length_append, List.length_replicate]; simp; (first | lia | omega)
          generalize PySem.Str.ofString "1" ++ zs = yy at hy hyl ⊢
          obtain ⟨g1, g2, g3, g4, g5, g6⟩ := one_noughts kn
          (repeat' (first | (k_unfold; (try dsimp only)) | ((fail_if_success (with_reducible (first | show InvEndN _ _ _ _ _ _ _ | show KswEnd _ _ _ _ _ _ _ _ _ _ _ _ | show WdEnd _ _ _ _ _ _ _ _ _ _ _ | show SrcStep _ _ _ _ _ _ _ _ _ _ _ _ _ _ | show LCg.CompEnd _ _ _ _ _ _ _ _ _ _ _ _ _ _ | show wpAny _ _ (pyIter _) _ _ _ | show wpAny _ _ (call (Value.builtin "str.join") _ _) _ _ _ | show wpAny _ _ (call (Value.ref _) _ _) _ _ _ | show wpAny _ _ (exec (Stmt.While _ _ _ _) _) _ _ _ | show wpAny _ _ (binaryOp Operator.LShift _ _) _ _ _ | show wpAny _ _ (binaryOp Operator.Mult _ _) _ _ _ | show wpAny _ _ (binaryOp Operator.Pow _ _) _ _ _ | show wpAny _ _ (eval (Expr.ListComp _ _ _ _) _) _ _ _ | show wpAny _ _ (exec (Stmt.Assign _ (Expr.ListComp _ _ _ _) _) _) _ _ _ | show wpAny _ _ (exec (Stmt.For _ _ _ _ _) _) _ _ _ | show LoopN _ _ _ _ _ _ _ _ _ _ | show FtPost _ _ _ _ _ _ _ _ _ | show FtEnd _ _ _ _ _ _ _ | show SrcDict _ _ _ _ _ _ _ _ _ _ _ _ _ _ | show wpAny _ _ (binaryOp Operator.Add (Value.str _ _) (Value.str _ _)) _ _ _ | show wpAny _ _ (subscriptTail _ _ (Value.ref _) (Value.int _ _)) _ _ _))); first | (k_end; wrow_close) | walk1 | (dsimp only; walk1) | (leave1; walk_say "STEP leave1"; try dsimp only) | fail "no step")))
          try dsimp only
          rename News h₀ L _ _ => N9
          refine c_ifs (body := [49] ++ List.replicate kn 48) (blanks := []) Hx C (by rw [hy, List.append_nil]) (by (first | lia | omega)) (by rw [hy]; exact g2) (List.forall_mem_nil _) g3 (by rw [g1, g5]; (first | lia | omega)) (by rw [g1, g5]; (first | lia | omega)) (by rw [g1]; exact g4) (by assumption) (by assumption) (by assumption) N9 (by assumption) rfl (by ktr_room) (by ktr_units) ?_
          rw [g1, g6]
          intro h11 tk11 dr11 t11 F11 N11
          (repeat' (first | (k_unfold; (try dsimp only)) | ((fail_if_success (with_reducible (first | show InvEndN _ _ _ _ _ _ _ | show KswEnd _ _ _ _ _ _ _ _ _ _ _ _ | show WdEnd _ _ _ _ _ _ _ _ _ _ _ | show SrcStep _ _ _ _ _ _ _ _ _ _ _ _ _ _ | show LCg.CompEnd _ _ _ _ _ _ _ _ _ _ _ _ _ _ | show wpAny _ _ (pyIter _) _ _ _ | show wpAny _ _ (call (Value.builtin "str.join") _ _) _ _ _ | show wpAny _ _ (call (Value.ref _) _ _) _ _ _ | show wpAny _ _ (exec (Stmt.While _ _ _ _) _) _ _ _ | show wpAny _ _ (binaryOp Operator.LShift _ _) _ _ _ | show wpAny _ _ (binaryOp Operator.Mult _ _) _ _ _ | show wpAny _ _ (binaryOp Operator.Pow _ _) _ _ _ | show wpAny _ _ (eval (Expr.ListComp _ _ _ _) _) _ _ _ | show wpAny _ _ (exec (Stmt.Assign _ (Expr.ListComp _ _ _ _) _) _) _ _ _ | show wpAny _ _ (exec (Stmt.For _ _ _ _ _) _) _ _ _ | show LoopN _ _ _ _ _ _ _ _ _ _ | show FtPost _ _ _ _ _ _ _ _ _ | show FtEnd _ _ _ _ _ _ _ | show SrcDict _ _ _ _ _ _ _ _ _ _ _ _ _ _ | show wpAny _ _ (binaryOp Operator.Add (Value.str _ _) (Value.str _ _)) _ _ _ | show wpAny _ _ (subscriptTail _ _ (Value.ref _) (Value.int _ _)) _ _ _))); first | (k_end; wrow_close) | walk1 | (dsimp only; walk1) | (leave1; walk_say "STEP leave1"; try dsimp only) | fail "no step")))
          try dsimp only
          obtain ⟨tw, hw⟩ := hP.value hkn
          refine kda_item (knd := intKind _ _) (k := (kn : Int)) N11 (.head _) hod (intKind_is _ _ _ _) hw ?_
          (repeat' (first | (k_unfold; (try dsimp only)) | ((fail_if_success (with_reducible (first | show InvEndN _ _ _ _ _ _ _ | show KswEnd _ _ _ _ _ _ _ _ _ _ _ _ | show WdEnd _ _ _ _ _ _ _ _ _ _ _ | show SrcStep _ _ _ _ _ _ _ _ _ _ _ _ _ _ | show LCg.CompEnd _ _ _ _ _ _ _ _ _ _ _ _ _ _ | show wpAny _ _ (pyIter _) _ _ _ | show wpAny _ _ (call (Value.builtin "str.join") _ _) _ _ _ | show wpAny _ _ (call (Value.ref _) _ _) _ _ _ | show wpAny _ _ (exec (Stmt.While _ _ _ _) _) _ _ _ | show wpAny _ _ (binaryOp Operator.LShift _ _) _ _ _ | show wpAny _ _ (binaryOp Operator.Mult _ _) _ _ _ | show wpAny _ _ (binaryOp Operator.Pow _ _) _ _ _ | show wpAny _ _ (eval (Expr.ListComp _ _ _ _) _) _ _ _ | show wpAny _ _ (exec (Stmt.Assign _ (Expr.ListComp _ _ _ _) _) _) _ _ _ | show wpAny _ _ (exec (Stmt.For _ _ _ _ _) _) _ _ _ | show LoopN _ _ _ _ _ _ _ _ _ _ | show FtPost _ _ _ _ _ _ _ _ _ | show FtEnd _ _ _ _ _ _ _ | show SrcDict _ _ _ _ _ _ _ _ _ _ _ _ _ _ | show wpAny _ _ (binaryOp Operator.Add (Value.str _ _) (Value.str _ _)) _ _ _ | show wpAny _ _ (subscriptTail _ _ (Value.ref _) (Value.int _ _)) _ _ _))); first | (k_end; wrow_close) | walk1 | (dsimp only; walk1) | (leave1; walk_say "STEP leave1"; try dsimp only) | fail "no step")))
          try dsimp only
          have hb5 := bits_five kn
          rw [Int.toNat_natCast]
          refine PyProof.Rows.lshift_int (by (first | lia | omega)) (by (first | lia | omega)) ?_
          rw [Int.toNat_natCast, ten_int]
          (repeat' (first | (k_unfold; (try dsimp only)) | ((fail_if_success (with_reducible (first | show InvEndN _ _ _ _ _ _ _ | show KswEnd _ _ _ _ _ _ _ _ _ _ _ _ | show WdEnd _ _ _ _ _ _ _ _ _ _ _ | show SrcStep _ _ _ _ _ _ _ _ _ _ _ _ _ _ | show LCg.CompEnd _ _ _ _ _ _ _ _ _ _ _ _ _ _ | show wpAny _ _ (pyIter _) _ _ _ | show wpAny _ _ (call (Value.builtin "str.join") _ _) _ _ _ | show wpAny _ _ (call (Value.ref _) _ _) _ _ _ | show wpAny _ _ (exec (Stmt.While _ _ _ _) _) _ _ _ | show wpAny _ _ (binaryOp Operator.LShift _ _) _ _ _ | show wpAny _ _ (binaryOp Operator.Mult _ _) _ _ _ | show wpAny _ _ (binaryOp Operator.Pow _ _) _ _ _ | show wpAny _ _ (eval (Expr.ListComp _ _ _ _) _) _ _ _ | show wpAny _ _ (exec (Stmt.Assign _ (Expr.ListComp _ _ _ _) _) _) _ _ _ | show wpAny _ _ (exec (Stmt.For _ _ _ _ _) _) _ _ _ | show LoopN _ _ _ _ _ _ _ _ _ _ | show FtPost _ _ _ _ _ _ _ _ _ | show FtEnd _ _ _ _ _ _ _ | show SrcDict _ _ _ _ _ _ _ _ _ _ _ _ _ _ | show wpAny _ _ (binaryOp Operator.Add (Value.str _ _) (Value.str _ _)) _ _ _ | show wpAny _ _ (subscriptTail _ _ (Value.ref _) (Value.int _ _)) _ _ _))); first | (k_end; wrow_close) | walk1 | (dsimp only; walk1) | (leave1; walk_say "STEP leave1"; try dsimp only) | fail "no step")))
          · rename_i hq
            exact absurd rfl hq
          · rename Fr h₀ L _ _ => F12
            rename News h₀ L _ _ => N12
            exact ⟨_, _, _, _, _, rfl, F12, N12, fun q hq => by simpa using hq, fun z hz => stored1 hz⟩
        · intro s2 uu h8 tk8 dr8 hg2 ho2 F8 N8
          (repeat' (first | (k_unfold; (try dsimp only)) | ((fail_if_success (with_reducible (first | show InvEndN _ _ _ _ _ _ _ | show KswEnd _ _ _ _ _ _ _ _ _ _ _ _ | show WdEnd _ _ _ _ _ _ _ _ _ _ _ | show SrcStep _ _ _ _ _ _ _ _ _ _ _ _ _ _ | show LCg.CompEnd _ _ _ _ _ _ _ _ _ _ _ _ _ _ | show wpAny _ _ (pyIter _) _ _ _ | show wpAny _ _ (call (Value.builtin "str.join") _ _) _ _ _ | show wpAny _ _ (call (Value.ref _) _ _) _ _ _ | show wpAny _ _ (exec (Stmt.While _ _ _ _) _) _ _ _ | show wpAny _ _ (binaryOp Operator.LShift _ _) _ _ _ | show wpAny _ _ (binaryOp Operator.Mult _ _) _ _ _ | show wpAny _ _ (binaryOp Operator.Pow _ _) _ _ _ | show wpAny _ _ (eval (Expr.ListComp _ _ _ _) _) _ _ _ | show wpAny _ _ (exec (Stmt.Assign _ (Expr.ListComp _ _ _ _) _) _) _ _ _ | show wpAny _ _ (exec (Stmt.For _ _ _ _ _) _) _ _ _ | show LoopN _ _ _ _ _ _ _ _ _ _ | show FtPost _ _ _ _ _ _ _ _ _ | show FtEnd _ _ _ _ _ _ _ | show SrcDict _ _ _ _ _ _ _ _ _ _ _ _ _ _ | show wpAny _ _ (binaryOp Operator.Add (Value.str _ _) (Value.str _ _)) _ _ _ | show wpAny _ _ (subscriptTail _ _ (Value.ref _) (Value.int _ _)) _ _ _))); first | (k_end; wrow_close) | walk1 | (dsimp only; walk1) | (leave1; walk_say "STEP leave1"; try dsimp only) | fail "no step")))
          dsimp only at hg2 ho2
          refine ⟨h8, tk8, dr8, _, _, ?_, F8, N8, fun q hq => .tail _ hq, fun z hz => stored3 hz⟩
          rw [hg2, ho2]
      · rename_i hcontra
        exact absurd (by rw [half_fdiv]) hcontra
  · intro s1 u h tk dr hg ho F2 N2
    refine' law7 (s := { heap := h, gens := s1.gens, drawn := dr, toks := tk, os := s1.os }) hdef' hk4 hn2 hnr2 H hx1 hx2 hdig hval C B (frAt F2 ?fr) X N2 T hd hu ?_
    case fr => repeat' (first | exact List.forall_mem_nil _ | refine List.forall_mem_cons.mpr ⟨rfl, ?_⟩)
    intro h' tk' dr' m' c2 F9 N9
    dsimp only
    rw [hg, ho]
    exact hret _ _ _ _ _ F9 N9

end
end Mine
end
section
theorem Mine.reset_D5 : True := by
  w_top off
  exact trivial
open PySem PySem.W PySem.NumText PyProof.Rows
set_option maxRecDepth 100000
set_option linter.unusedVariables false
namespace Mine
theorem fill_25 (w : World) (h : Heap) : Frag.In (Mine.Head.hd.heap_39 w.params) h → Challenge.rw_lo0013_01.row.prog = Challenge.rw_lo0013_01.row.prog := by
  k_fill
  intros; rfl
section
variable {w : World} {p : Program} {loose : List Str} {mean : ExcName → Option Value} {mg mb : Str → Option Value} {dp un : Nat} {gd : Option (List Code)} {cn : Str} {cs : Scope} {a : Addr} {ccd : Value} {cl : List (Str × Addr)} {outer : List Env} {A₀ : Around} {base h₀ : Heap} {L : Addr} {m : Str → Option Value} {news : List (Addr × Obj)} {s : Shared} {Q E : Value → Shared → Prop}

theorem modL (d : Int) (l : Nat) : ∃ q : Nat, d.fmod ((l : Int) + 1) = (q : Int) ∧ q ≤ l := by
  have h1 := Int.fmod_nonneg_of_pos d (b := (l : Int) + 1) (by (first | lia | omega))
  have h2 := Int.fmod_lt_of_pos d (b := (l : Int) + 1) (by (first | lia | omega))
  exact ⟨(d.fmod ((l : Int) + 1)).toNat, by (first | lia | omega), by (first | lia | omega)⟩
theorem modK (d : Int) (l : Nat) (hl : 0 < l) : ∃ q : Nat, d.fmod (l : Int) = (q : Int) ∧ q < l := by
  have h1 := Int.fmod_nonneg_of_pos d (b := (l : Int)) (by (first | lia | omega))
  have h2 := Int.fmod_lt_of_pos d (b := (l : Int)) (by (first | lia | omega))
  exact ⟨(d.fmod (l : Int)).toNat, by (first | lia | omega), by (first | lia | omega)⟩
theorem ne24 {h : Heap} {D : Addr} {ys : List Value} {ps : Array Value} (N : News h₀ L h [(D, LCg.lst ys), (24, tabObj ps)]) : D ≠ 24 := by
  intro e
  have a := (N _ (.head _)).1
  have b := (N _ (.tail _ (.head _))).1
  dsimp only at a b
  rw [e, b] at a
  cases a
theorem tab_empty {h : Heap} {D : Addr} {ys : List Value} (N : News h₀ L h [(D, LCg.lst ys), (24, tabObj #[])]) : Tab0 [(D, LCg.lst ys), (24, tabObj #[])] :=
  .inr ⟨_, .tail (ne24 N) (.head fun _ hp => nomatch hp)⟩
theorem tab_after {h h' : Heap} {D : Addr} {ys : List Value} {ps : Array Value} {newsX : List (Addr × Obj)} {c' : Addr} (N : News h₀ L h [(D, LCg.lst ys), (24, tabObj ps)]) (TT : TabTo [(D, LCg.lst ys), (24, tabObj ps)] newsX c') (N' : News h₀ L h' newsX) :
    ∃ oc, TabHit [(D, LCg.lst ys), (24, tabObj #[rawInt 46, rawInt 4, .ref c']), (c', oc)] c' ∧ News h₀ L h' [(D, LCg.lst ys), (24, tabObj #[rawInt 46, rawInt 4, .ref c']), (c', oc)] := by
  obtain ⟨⟨h1, oc, vs, t, h2, h3, h4⟩, old⟩ := TT
  refine ⟨oc, ⟨.tail _ (.head _), oc, vs, t, .tail _ (.tail _ (.head _)), h3, h4⟩, fun p hp => ?_⟩
  rcases List.mem_cons.mp hp with rfl | hp
  · exact N' _ (old _ (.head _) (ne24 N))
  · rcases List.mem_cons.mp hp with rfl | hp
    · exact N' _ h1
    · rw [List.mem_singleton.mp hp]; exact N' _ h2
theorem tab_again {h h' : Heap} {D : Addr} {ys : List Value} {ps : Array Value} {q : Addr × Obj} {newsX : List (Addr × Obj)} {c' : Addr} (N : News h₀ L h [(D, LCg.lst ys), (24, tabObj ps), q]) (TT : TabTo [(D, LCg.lst ys), (24, tabObj ps), q] newsX c') (N' : News h₀ L h' newsX) :
    ∃ oc, TabHit [(24, tabObj #[rawInt 46, rawInt 4, .ref c']), (c', oc)] c' ∧ News h₀ L h' [(D, LCg.lst ys), (24, tabObj #[rawInt 46, rawInt 4, .ref c']), (c', oc)] := by
  obtain ⟨⟨h1, oc, vs, t, h2, h3, h4⟩, old⟩ := TT
  refine ⟨oc, ⟨.head _, oc, vs, t, .tail _ (.head _), h3, h4⟩, fun p hp => ?_⟩
  rcases List.mem_cons.mp hp with rfl | hp
  · refine N' _ (old _ (.head _) (ne24 (h₀ := h₀) (L := L) (h := h) (ys := ys) (ps := ps) fun r hr => N r ?_))
    rcases List.mem_cons.mp hr with rfl | hr
    · exact .head _
    · rw [List.mem_singleton.mp hr]; exact .tail _ (.head _)
  · rcases List.mem_cons.mp hp with rfl | hp
    · exact N' _ h1
    · rw [List.mem_singleton.mp hp]; exact N' _ h2
set_option maxHeartbeats 8000000 in
theorem law5 {params : Arguments} {body : List Stmt} {scope : Scope} (hdef : lawOf = (params, body, scope)) {D : Addr} {d0 d1 d2 d3 d4 d5 : Int} {u0 u1 u2 u3 u4 u5 : Tok} {n nr k : Nat} {v1 v2 v3 v4 v5 : Tok} (hk4 : k = 4096) (hn2 : n < 2 ^ 600) (hnr2 : nr < 2 ^ 600) {v : Nat} {v8 v9 : Tok} (hv1 : 10 ^ 2050 ≤ v) (hv2 : v < 10 ^ 2400)
    (C : CodeHd h₀ 28 24)
    (B : Below A₀ h₀ [] h₀) (F : Fr h₀ L s.heap (kstB m [(PySem.Str.ofString "draws", .ref D), (PySem.Str.ofString "threes", .int ((rep 3 k : Nat) : Int) v1), (PySem.Str.ofString "eights", .int ((rep 8 k : Nat) : Int) v2), (PySem.Str.ofString "number", .int (n : Int) v3), (PySem.Str.ofString "packed", .int ((bcd n : Nat) : Int) v4), (PySem.Str.ofString "near", .int (nr : Int) v5), (PySem.Str.ofString "wide", .int (v : Int) v8), (PySem.Str.ofString "row", .int ((bcd v : Nat) : Int) v9)])) (X : Frag.In (Mine.Head.hd.heap_39 w.params) h₀)
    (N : News h₀ L s.heap [(D, LCg.lst [.int d0 u0, .int d1 u1, .int d2 u2, .int d3 u3, .int d4 u4, .int d5 u5]), (24, tabObj #[])]) (T : Top p loose mean mg mb h₀) (hd : dp + 20 < recursionLimit) (hu : un + 100 < cLine) {Q : Flow → Shared → Prop}
    (hret : ∀ h' tk' dr' m' c', Fr h₀ L h' m' → News h₀ L h' [(24, tabObj #[rawInt 46, rawInt 4, .ref c'])] → Q (.ret (.bool true)) { s with heap := h', toks := tk', drawn := dr' }) :
    wpC (model Challenge.rw_lo0013_01.row.prog w) (ktrTop dp un gd (PySem.Str.ofString "law") scope L a ccd [(PySem.Str.ofString "cells", L + 1)] []) (execs (body.drop 11) (envX (PySem.Str.ofString "law") scope L a ccd [(PySem.Str.ofString "cells", L + 1)])) Q (fun _ _ => False) s := by
  have e : lawOf = (_, [_, _, _, _, _, _, _, _, _, _, _, _, _, _, _, _, _, _, _], _) := rfl
  rw [e] at hdef
  have hdef' := hdef
  cases hdef
  dsimp only [List.drop]
  refine wpC_execs_consA ?_
  (repeat' (first | (k_unfold; (try dsimp only)) | ((fail_if_success (with_reducible (first | show InvEndN _ _ _ _ _ _ _ | show KswEnd _ _ _ _ _ _ _ _ _ _ _ _ | show WdEnd _ _ _ _ _ _ _ _ _ _ _ | show SrcStep _ _ _ _ _ _ _ _ _ _ _ _ _ _ | show LCg.CompEnd _ _ _ _ _ _ _ _ _ _ _ _ _ _ | show wpAny _ _ (pyIter _) _ _ _ | show wpAny _ _ (call (Value.builtin "str.join") _ _) _ _ _ | show wpAny _ _ (call (Value.ref _) _ _) _ _ _ | show wpAny _ _ (exec (Stmt.While _ _ _ _) _) _ _ _ | show wpAny _ _ (binaryOp Operator.LShift _ _) _ _ _ | show wpAny _ _ (binaryOp Operator.Mult _ _) _ _ _ | show wpAny _ _ (binaryOp Operator.Pow _ _) _ _ _ | show wpAny _ _ (eval (Expr.ListComp _ _ _ _) _) _ _ _ | show wpAny _ _ (exec (Stmt.Assign _ (Expr.ListComp _ _ _ _) _) _) _ _ _ | show wpAny _ _ (storeName _ _ _) _ _ _ | show wpAny _ _ (binaryOp Operator.Mod _ _) _ _ _ | show LCg.CompSrc _ _ _ _ _ _ _ _ _ _ _ _ _ _ | show wpAny _ _ (binaryOp Operator.Add (Value.str _ _) (Value.str _ _)) _ _ _))); first | (k_end; wrow_close) | walk1 | (dsimp only; walk1) | (leave1; walk_say "STEP leave1"; try dsimp only) | fail "no step")))
  try dsimp only
  refine c_text (n := v) (Nat.lt_of_lt_of_le hv2 (Nat.pow_le_pow_right (by decide) (by decide))) (by assumption) (by assumption) (by assumption) (by assumption) (by assumption) rfl (by ktr_room) (by ktr_units) ?_
  intro x tx h1 tk1 hx F1 N1
  have hdig : AllDigits (sg x) := by rw [show sg x = _ from hx]; exact figs_digits _ _
  have hval : digitsVal (sg x) = v := by rw [show sg x = _ from hx]; exact figs_val (figN_lt v)
  have hxl : x.length = figN v := by rw [← sg_len, show sg x = _ from hx, figs_len]
  have hx1 : 2050 ≤ x.length := by have := figN_ge hv1; (first | lia | omega)
  have hx2 : x.length ≤ 2400 := by rw [hxl]; exact figN_le (by decide) hv2
  clear hx hxl
  (repeat' (first | (k_unfold; (try dsimp only)) | ((fail_if_success (with_reducible (first | show InvEndN _ _ _ _ _ _ _ | show KswEnd _ _ _ _ _ _ _ _ _ _ _ _ | show WdEnd _ _ _ _ _ _ _ _ _ _ _ | show SrcStep _ _ _ _ _ _ _ _ _ _ _ _ _ _ | show LCg.CompEnd _ _ _ _ _ _ _ _ _ _ _ _ _ _ | show wpAny _ _ (pyIter _) _ _ _ | show wpAny _ _ (call (Value.builtin "str.join") _ _) _ _ _ | show wpAny _ _ (call (Value.ref _) _ _) _ _ _ | show wpAny _ _ (exec (Stmt.While _ _ _ _) _) _ _ _ | show wpAny _ _ (binaryOp Operator.LShift _ _) _ _ _ | show wpAny _ _ (binaryOp Operator.Mult _ _) _ _ _ | show wpAny _ _ (binaryOp Operator.Pow _ _) _ _ _ | show wpAny _ _ (eval (Expr.ListComp _ _ _ _) _) _ _ _ | show wpAny _ _ (exec (Stmt.Assign _ (Expr.ListComp _ _ _ _) _) _) _ _ _ | show wpAny _ _ (storeName _ _ _) _ _ _ | show wpAny _ _ (binaryOp Operator.Mod _ _) _ _ _ | show LCg.CompSrc _ _ _ _ _ _ _ _ _ _ _ _ _ _ | show wpAny _ _ (binaryOp Operator.Add (Value.str _ _) (Value.str _ _)) _ _ _))); first | (k_end; wrow_close) | walk1 | (dsimp only; walk1) | (leave1; walk_say "STEP leave1"; try dsimp only) | fail "no step")))
  try dsimp only
  walk1
  (repeat' (first | (k_unfold; (try dsimp only)) | ((fail_if_success (with_reducible (first | show InvEndN _ _ _ _ _ _ _ | show KswEnd _ _ _ _ _ _ _ _ _ _ _ _ | show WdEnd _ _ _ _ _ _ _ _ _ _ _ | show SrcStep _ _ _ _ _ _ _ _ _ _ _ _ _ _ | show LCg.CompEnd _ _ _ _ _ _ _ _ _ _ _ _ _ _ | show wpAny _ _ (pyIter _) _ _ _ | show wpAny _ _ (call (Value.builtin "str.join") _ _) _ _ _ | show wpAny _ _ (call (Value.ref _) _ _) _ _ _ | show wpAny _ _ (exec (Stmt.While _ _ _ _) _) _ _ _ | show wpAny _ _ (binaryOp Operator.LShift _ _) _ _ _ | show wpAny _ _ (binaryOp Operator.Mult _ _) _ _ _ | show wpAny _ _ (binaryOp Operator.Pow _ _) _ _ _ | show wpAny _ _ (eval (Expr.ListComp _ _ _ _) _) _ _ _ | show wpAny _ _ (exec (Stmt.Assign _ (Expr.ListComp _ _ _ _) _) _) _ _ _ | show wpAny _ _ (storeName _ _ _) _ _ _ | show wpAny _ _ (binaryOp Operator.Mod _ _) _ _ _ | show LCg.CompSrc _ _ _ _ _ _ _ _ _ _ _ _ _ _ | show wpAny _ _ (binaryOp Operator.Add (Value.str _ _) (Value.str _ _)) _ _ _))); first | (k_end; wrow_close) | walk1 | (dsimp only; walk1) | (leave1; walk_say "STEP leave1"; try dsimp only) | fail "no step")))
  try dsimp only
  refine wpC_execs_consA ?_
  (repeat' (first | (k_unfold; (try dsimp only)) | ((fail_if_success (with_reducible (first | show InvEndN _ _ _ _ _ _ _ | show KswEnd _ _ _ _ _ _ _ _ _ _ _ _ | show WdEnd _ _ _ _ _ _ _ _ _ _ _ | show SrcStep _ _ _ _ _ _ _ _ _ _ _ _ _ _ | show LCg.CompEnd _ _ _ _ _ _ _ _ _ _ _ _ _ _ | show wpAny _ _ (pyIter _) _ _ _ | show wpAny _ _ (call (Value.builtin "str.join") _ _) _ _ _ | show wpAny _ _ (call (Value.ref _) _ _) _ _ _ | show wpAny _ _ (exec (Stmt.While _ _ _ _) _) _ _ _ | show wpAny _ _ (binaryOp Operator.LShift _ _) _ _ _ | show wpAny _ _ (binaryOp Operator.Mult _ _) _ _ _ | show wpAny _ _ (binaryOp Operator.Pow _ _) _ _ _ | show wpAny _ _ (eval (Expr.ListComp _ _ _ _) _) _ _ _ | show wpAny _ _ (exec (Stmt.Assign _ (Expr.ListComp _ _ _ _) _) _) _ _ _ | show wpAny _ _ (storeName _ _ _) _ _ _ | show wpAny _ _ (binaryOp Operator.Mod _ _) _ _ _ | show LCg.CompSrc _ _ _ _ _ _ _ _ _ _ _ _ _ _ | show wpAny _ _ (binaryOp Operator.Add (Value.str _ _) (Value.str _ _)) _ _ _))); first | (k_end; wrow_close) | walk1 | (dsimp only; walk1) | (leave1; walk_say "STEP leave1"; try dsimp only) | fail "no step")))
  try dsimp only
  refine PyProof.Rows.mod_int' (by (first | lia | omega)) ?_
  rw [show [d0, d1, d2, d3, d4, d5].getD (Int.toNat 2) 0 = d2 from rfl]
  obtain ⟨q, hq, hq2⟩ := modL d2 x.length
  rw [hq]
  clear hq
  (repeat' (first | (k_unfold; (try dsimp only)) | ((fail_if_success (with_reducible (first | show InvEndN _ _ _ _ _ _ _ | show KswEnd _ _ _ _ _ _ _ _ _ _ _ _ | show WdEnd _ _ _ _ _ _ _ _ _ _ _ | show SrcStep _ _ _ _ _ _ _ _ _ _ _ _ _ _ | show LCg.CompEnd _ _ _ _ _ _ _ _ _ _ _ _ _ _ | show wpAny _ _ (pyIter _) _ _ _ | show wpAny _ _ (call (Value.builtin "str.join") _ _) _ _ _ | show wpAny _ _ (call (Value.ref _) _ _) _ _ _ | show wpAny _ _ (exec (Stmt.While _ _ _ _) _) _ _ _ | show wpAny _ _ (binaryOp Operator.LShift _ _) _ _ _ | show wpAny _ _ (binaryOp Operator.Mult _ _) _ _ _ | show wpAny _ _ (binaryOp Operator.Pow _ _) _ _ _ | show wpAny _ _ (eval (Expr.ListComp _ _ _ _) _) _ _ _ | show wpAny _ _ (exec (Stmt.Assign _ (Expr.ListComp _ _ _ _) _) _) _ _ _ | show wpAny _ _ (storeName _ _ _) _ _ _ | show wpAny _ _ (binaryOp Operator.Mod _ _) _ _ _ | show LCg.CompSrc _ _ _ _ _ _ _ _ _ _ _ _ _ _ | show wpAny _ _ (binaryOp Operator.Add (Value.str _ _) (Value.str _ _)) _ _ _))); first | (k_end; wrow_close) | walk1 | (dsimp only; walk1) | (leave1; walk_say "STEP leave1"; try dsimp only) | fail "no step")))
  try dsimp only
  walk1
  (repeat' (first | (k_unfold; (try dsimp only)) | ((fail_if_success (with_reducible (first | show InvEndN _ _ _ _ _ _ _ | show KswEnd _ _ _ _ _ _ _ _ _ _ _ _ | show WdEnd _ _ _ _ _ _ _ _ _ _ _ | show SrcStep _ _ _ _ _ _ _ _ _ _ _ _ _ _ | show LCg.CompEnd _ _ _ _ _ _ _ _ _ _ _ _ _ _ | show wpAny _ _ (pyIter _) _ _ _ | show wpAny _ _ (call (Value.builtin "str.join") _ _) _ _ _ | show wpAny _ _ (call (Value.ref _) _ _) _ _ _ | show wpAny _ _ (exec (Stmt.While _ _ _ _) _) _ _ _ | show wpAny _ _ (binaryOp Operator.LShift _ _) _ _ _ | show wpAny _ _ (binaryOp Operator.Mult _ _) _ _ _ | show wpAny _ _ (binaryOp Operator.Pow _ _) _ _ _ | show wpAny _ _ (eval (Expr.ListComp _ _ _ _) _) _ _ _ | show wpAny _ _ (exec (Stmt.Assign _ (Expr.ListComp _ _ _ _) _) _) _ _ _ | show wpAny _ _ (storeName _ _ _) _ _ _ | show wpAny _ _ (binaryOp Operator.Mod _ _) _ _ _ | show LCg.CompSrc _ _ _ _ _ _ _ _ _ _ _ _ _ _ | show wpAny _ _ (binaryOp Operator.Add (Value.str _ _) (Value.str _ _)) _ _ _))); first | (k_end; wrow_close) | walk1 | (dsimp only; walk1) | (leave1; walk_say "STEP leave1"; try dsimp only) | fail "no step")))
  try dsimp only
  refine wpC_execs_cons (wpC_If (wpC_isTrue_Not (wpC_isTrue_Call (wpC_Call ?_))))
  (repeat' (first | (k_unfold; (try dsimp only)) | ((fail_if_success (with_reducible (first | show InvEndN _ _ _ _ _ _ _ | show KswEnd _ _ _ _ _ _ _ _ _ _ _ _ | show WdEnd _ _ _ _ _ _ _ _ _ _ _ | show SrcStep _ _ _ _ _ _ _ _ _ _ _ _ _ _ | show LCg.CompEnd _ _ _ _ _ _ _ _ _ _ _ _ _ _ | show wpAny _ _ (pyIter _) _ _ _ | show wpAny _ _ (call (Value.builtin "str.join") _ _) _ _ _ | show wpAny _ _ (call (Value.ref _) _ _) _ _ _ | show wpAny _ _ (exec (Stmt.While _ _ _ _) _) _ _ _ | show wpAny _ _ (binaryOp Operator.LShift _ _) _ _ _ | show wpAny _ _ (binaryOp Operator.Mult _ _) _ _ _ | show wpAny _ _ (binaryOp Operator.Pow _ _) _ _ _ | show wpAny _ _ (eval (Expr.ListComp _ _ _ _) _) _ _ _ | show wpAny _ _ (exec (Stmt.Assign _ (Expr.ListComp _ _ _ _) _) _) _ _ _ | show wpAny _ _ (storeName _ _ _) _ _ _ | show wpAny _ _ (binaryOp Operator.Mod _ _) _ _ _ | show LCg.CompSrc _ _ _ _ _ _ _ _ _ _ _ _ _ _ | show wpAny _ _ (binaryOp Operator.Add (Value.str _ _) (Value.str _ _)) _ _ _))); first | (k_end; wrow_close) | walk1 | (dsimp only; walk1) | (leave1; walk_say "STEP leave1"; try dsimp only) | fail "no step")))
  try dsimp only
  refine wpC_callP (P := Frag.In (Mine.Head.hd.heap_39 w.params)) (keeps_K (by k_is)) ?_
  (repeat' (first | (k_unfold; (try dsimp only)) | ((fail_if_success (with_reducible (first | show InvEndN _ _ _ _ _ _ _ | show KswEnd _ _ _ _ _ _ _ _ _ _ _ _ | show WdEnd _ _ _ _ _ _ _ _ _ _ _ | show SrcStep _ _ _ _ _ _ _ _ _ _ _ _ _ _ | show LCg.CompEnd _ _ _ _ _ _ _ _ _ _ _ _ _ _ | show wpAny _ _ (pyIter _) _ _ _ | show wpAny _ _ (call (Value.builtin "str.join") _ _) _ _ _ | show wpAny _ _ (call (Value.ref _) _ _) _ _ _ | show wpAny _ _ (exec (Stmt.While _ _ _ _) _) _ _ _ | show wpAny _ _ (binaryOp Operator.LShift _ _) _ _ _ | show wpAny _ _ (binaryOp Operator.Mult _ _) _ _ _ | show wpAny _ _ (binaryOp Operator.Pow _ _) _ _ _ | show wpAny _ _ (eval (Expr.ListComp _ _ _ _) _) _ _ _ | show wpAny _ _ (exec (Stmt.Assign _ (Expr.ListComp _ _ _ _) _) _) _ _ _ | show wpAny _ _ (storeName _ _ _) _ _ _ | show wpAny _ _ (binaryOp Operator.Mod _ _) _ _ _ | show LCg.CompSrc _ _ _ _ _ _ _ _ _ _ _ _ _ _ | show wpAny _ _ (binaryOp Operator.Add (Value.str _ _) (Value.str _ _)) _ _ _))); first | (k_end; wrow_close) | walk1 | (dsimp only; walk1) | (leave1; walk_say "STEP leave1"; try dsimp only) | fail "no step")))
  try dsimp only
  refine PyProof.Rows.mod_int' (by decide) ?_
  rw [show [d0, d1, d2, d3, d4, d5].getD (Int.toNat 5) 0 = d5 from rfl]
  obtain ⟨r5, hr5, hr5'⟩ := modK d5 5 (by decide)
  rw [show d5.fmod 5 = (r5 : Int) from hr5]
  clear hr5
  (repeat' (first | (k_unfold; (try dsimp only)) | ((fail_if_success (with_reducible (first | show InvEndN _ _ _ _ _ _ _ | show KswEnd _ _ _ _ _ _ _ _ _ _ _ _ | show WdEnd _ _ _ _ _ _ _ _ _ _ _ | show SrcStep _ _ _ _ _ _ _ _ _ _ _ _ _ _ | show LCg.CompEnd _ _ _ _ _ _ _ _ _ _ _ _ _ _ | show wpAny _ _ (pyIter _) _ _ _ | show wpAny _ _ (call (Value.builtin "str.join") _ _) _ _ _ | show wpAny _ _ (call (Value.ref _) _ _) _ _ _ | show wpAny _ _ (exec (Stmt.While _ _ _ _) _) _ _ _ | show wpAny _ _ (binaryOp Operator.LShift _ _) _ _ _ | show wpAny _ _ (binaryOp Operator.Mult _ _) _ _ _ | show wpAny _ _ (binaryOp Operator.Pow _ _) _ _ _ | show wpAny _ _ (eval (Expr.ListComp _ _ _ _) _) _ _ _ | show wpAny _ _ (exec (Stmt.Assign _ (Expr.ListComp _ _ _ _) _) _) _ _ _ | show wpAny _ _ (storeName _ _ _) _ _ _ | show wpAny _ _ (binaryOp Operator.Mod _ _) _ _ _ | show LCg.CompSrc _ _ _ _ _ _ _ _ _ _ _ _ _ _ | show wpAny _ _ (binaryOp Operator.Add (Value.str _ _) (Value.str _ _)) _ _ _))); first | (k_end; wrow_close) | walk1 | (dsimp only; walk1) | (leave1; walk_say "STEP leave1"; try dsimp only) | fail "no step")))
  try dsimp only
  have ha := slice_head (x := x) hq2
  have hal : (Txt.slice x none (some (q : Int))).length ≤ 2400 := by rw [← sg_len, ha, List.length_take, sg_len]; (first | lia | omega)
  obtain ⟨fc, hfc, hFor⟩ := foreign_at hr5'
  have hfl : (Txt.item (PySem.Str.ofString ".:/a,") (r5 : Int)).length = 1 := by rw [← sg_len, hfc]; rfl
  generalize Txt.slice x none (some (q : Int)) = xa at ha hal ⊢
  generalize Txt.item (PySem.Str.ofString ".:/a,") (r5 : Int) = xf at hfc hfl ⊢
  refine SB.add ?_ (by rw [sizeLine_eq]; (first | lia | omega))
  intro t2 k2
  (repeat' (first | (k_unfold; (try dsimp only)) | ((fail_if_success (with_reducible (first | show InvEndN _ _ _ _ _ _ _ | show KswEnd _ _ _ _ _ _ _ _ _ _ _ _ | show WdEnd _ _ _ _ _ _ _ _ _ _ _ | show SrcStep _ _ _ _ _ _ _ _ _ _ _ _ _ _ | show LCg.CompEnd _ _ _ _ _ _ _ _ _ _ _ _ _ _ | show wpAny _ _ (pyIter _) _ _ _ | show wpAny _ _ (call (Value.builtin "str.join") _ _) _ _ _ | show wpAny _ _ (call (Value.ref _) _ _) _ _ _ | show wpAny _ _ (exec (Stmt.While _ _ _ _) _) _ _ _ | show wpAny _ _ (binaryOp Operator.LShift _ _) _ _ _ | show wpAny _ _ (binaryOp Operator.Mult _ _) _ _ _ | show wpAny _ _ (binaryOp Operator.Pow _ _) _ _ _ | show wpAny _ _ (eval (Expr.ListComp _ _ _ _) _) _ _ _ | show wpAny _ _ (exec (Stmt.Assign _ (Expr.ListComp _ _ _ _) _) _) _ _ _ | show wpAny _ _ (storeName _ _ _) _ _ _ | show wpAny _ _ (binaryOp Operator.Mod _ _) _ _ _ | show LCg.CompSrc _ _ _ _ _ _ _ _ _ _ _ _ _ _ | show wpAny _ _ (binaryOp Operator.Add (Value.str _ _) (Value.str _ _)) _ _ _))); first | (k_end; wrow_close) | walk1 | (dsimp only; walk1) | (leave1; walk_say "STEP leave1"; try dsimp only) | fail "no step")))
  try dsimp only
  have hc := slice_tail (x := x) hq2
  have hcl : (Txt.slice x (some (q : Int)) none).length ≤ 2400 := by rw [← sg_len, hc, List.length_drop, sg_len]; (first | lia | omega)
  generalize Txt.slice x (some (q : Int)) none = xc at hc hcl ⊢
  have hafl : (xa ++ xf).length = xa.length + xf.length := by rw [← sg_len, sg_append, List.length_append, sg_len, sg_len]
  refine SB.add ?_ (by rw [sizeLine_eq]; (first | lia | omega))
  intro t3 k3
  (repeat' (first | (k_unfold; (try dsimp only)) | ((fail_if_success (with_reducible (first | show InvEndN _ _ _ _ _ _ _ | show KswEnd _ _ _ _ _ _ _ _ _ _ _ _ | show WdEnd _ _ _ _ _ _ _ _ _ _ _ | show SrcStep _ _ _ _ _ _ _ _ _ _ _ _ _ _ | show LCg.CompEnd _ _ _ _ _ _ _ _ _ _ _ _ _ _ | show wpAny _ _ (pyIter _) _ _ _ | show wpAny _ _ (call (Value.builtin "str.join") _ _) _ _ _ | show wpAny _ _ (call (Value.ref _) _ _) _ _ _ | show wpAny _ _ (exec (Stmt.While _ _ _ _) _) _ _ _ | show wpAny _ _ (binaryOp Operator.LShift _ _) _ _ _ | show wpAny _ _ (binaryOp Operator.Mult _ _) _ _ _ | show wpAny _ _ (binaryOp Operator.Pow _ _) _ _ _ | show wpAny _ _ (eval (Expr.ListComp _ _ _ _) _) _ _ _ | show wpAny _ _ (exec (Stmt.Assign _ (Expr.ListComp _ _ _ _) _) _) _ _ _ | show wpAny _ _ (storeName _ _ _) _ _ _ | show wpAny _ _ (binaryOp Operator.Mod _ _) _ _ _ | show LCg.CompSrc _ _ _ _ _ _ _ _ _ _ _ _ _ _ | show wpAny _ _ (binaryOp Operator.Add (Value.str _ _) (Value.str _ _)) _ _ _))); first | (k_end; wrow_close) | walk1 | (dsimp only; walk1) | (leave1; walk_say "STEP leave1"; try dsimp only) | fail "no step")))
  try dsimp only
  have hy : sg (xa ++ xf ++ xc) = (sg x).take q ++ [fc] ++ (sg x).drop q := by rw [sg_append, sg_append, ha, hfc, hc]
  have hyl : (xa ++ xf ++ xc).length = x.length + 1 := by
    obtain ⟨_, _, _, _, _, hl⟩ := with_foreign (p := q) hdig hFor
    rw [← sg_len, hy, hl, sg_len]
  generalize xa ++ xf ++ xc = y at hy hyl ⊢
  obtain ⟨g1, g2, g3, g4, g5, g6⟩ := with_foreign (p := q) hdig hFor
  rename Fr h₀ L _ _ => F5
  rename News h₀ L _ _ => N5
  refine c_refused (body := (sg x).take q ++ [fc] ++ (sg x).drop q) (blanks := []) (tab_empty N5) C X T (by rw [hy, List.append_nil]) (by (first | lia | omega)) (by rw [hy]; exact g4) (List.forall_mem_nil _) g5 (by rw [g3, g6, sg_len]; (first | lia | omega)) (by rw [g3]; exact g1) (.inr (by rw [g3]; exact g2)) (by assumption) F5 (by assumption) N5 (by assumption) rfl (by ktr_room) (by ktr_units) ?_
  intro h6 tk6 dr6 c' newsX TT F6 N6
  obtain ⟨oc, H6, N6'⟩ := tab_after N5 TT N6
  clear N6 TT
  (repeat' (first | (k_unfold; (try dsimp only)) | ((fail_if_success (with_reducible (first | show InvEndN _ _ _ _ _ _ _ | show KswEnd _ _ _ _ _ _ _ _ _ _ _ _ | show WdEnd _ _ _ _ _ _ _ _ _ _ _ | show SrcStep _ _ _ _ _ _ _ _ _ _ _ _ _ _ | show LCg.CompEnd _ _ _ _ _ _ _ _ _ _ _ _ _ _ | show wpAny _ _ (pyIter _) _ _ _ | show wpAny _ _ (call (Value.builtin "str.join") _ _) _ _ _ | show wpAny _ _ (call (Value.ref _) _ _) _ _ _ | show wpAny _ _ (exec (Stmt.While _ _ _ _) _) _ _ _ | show wpAny _ _ (binaryOp Operator.LShift _ _) _ _ _ | show wpAny _ _ (binaryOp Operator.Mult _ _) _ _ _ | show wpAny _ _ (binaryOp Operator.Pow _ _) _ _ _ | show wpAny _ _ (eval (Expr.ListComp _ _ _ _) _) _ _ _ | show wpAny _ _ (exec (Stmt.Assign _ (Expr.ListComp _ _ _ _) _) _) _ _ _ | show wpAny _ _ (storeName _ _ _) _ _ _ | show wpAny _ _ (binaryOp Operator.Mod _ _) _ _ _ | show LCg.CompSrc _ _ _ _ _ _ _ _ _ _ _ _ _ _ | show wpAny _ _ (binaryOp Operator.Add (Value.str _ _) (Value.str _ _)) _ _ _))); first | (k_end; wrow_close) | walk1 | (dsimp only; walk1) | (leave1; walk_say "STEP leave1"; try dsimp only) | fail "no step")))
  refine wpC_any ?_
  (repeat' (first | (k_unfold; (try dsimp only)) | ((fail_if_success (with_reducible (first | show InvEndN _ _ _ _ _ _ _ | show KswEnd _ _ _ _ _ _ _ _ _ _ _ _ | show WdEnd _ _ _ _ _ _ _ _ _ _ _ | show SrcStep _ _ _ _ _ _ _ _ _ _ _ _ _ _ | show LCg.CompEnd _ _ _ _ _ _ _ _ _ _ _ _ _ _ | show wpAny _ _ (pyIter _) _ _ _ | show wpAny _ _ (call (Value.builtin "str.join") _ _) _ _ _ | show wpAny _ _ (call (Value.ref _) _ _) _ _ _ | show wpAny _ _ (exec (Stmt.While _ _ _ _) _) _ _ _ | show wpAny _ _ (binaryOp Operator.LShift _ _) _ _ _ | show wpAny _ _ (binaryOp Operator.Mult _ _) _ _ _ | show wpAny _ _ (binaryOp Operator.Pow _ _) _ _ _ | show wpAny _ _ (eval (Expr.ListComp _ _ _ _) _) _ _ _ | show wpAny _ _ (exec (Stmt.Assign _ (Expr.ListComp _ _ _ _) _) _) _ _ _ | show wpAny _ _ (storeName _ _ _) _ _ _ | show wpAny _ _ (binaryOp Operator.Mod _ _) _ _ _ | show LCg.CompSrc _ _ _ _ _ _ _ _ _ _ _ _ _ _ | show wpAny _ _ (binaryOp Operator.Add (Value.str _ _) (Value.str _ _)) _ _ _))); first | (k_end; wrow_close) | walk1 | (dsimp only; walk1) | (leave1; walk_say "STEP leave1"; try dsimp only) | fail "no step")))
  try dsimp only
  refine wpC_execs_cons (wpC_If (wpC_isTrue_Not (wpC_isTrue_Call (wpC_Call ?_))))
  (repeat' (first | (k_unfold; (try dsimp only)) | ((fail_if_success (with_reducible (first | show InvEndN _ _ _ _ _ _ _ | show KswEnd _ _ _ _ _ _ _ _ _ _ _ _ | show WdEnd _ _ _ _ _ _ _ _ _ _ _ | show SrcStep _ _ _ _ _ _ _ _ _ _ _ _ _ _ | show LCg.CompEnd _ _ _ _ _ _ _ _ _ _ _ _ _ _ | show wpAny _ _ (pyIter _) _ _ _ | show wpAny _ _ (call (Value.builtin "str.join") _ _) _ _ _ | show wpAny _ _ (call (Value.ref _) _ _) _ _ _ | show wpAny _ _ (exec (Stmt.While _ _ _ _) _) _ _ _ | show wpAny _ _ (binaryOp Operator.LShift _ _) _ _ _ | show wpAny _ _ (binaryOp Operator.Mult _ _) _ _ _ | show wpAny _ _ (binaryOp Operator.Pow _ _) _ _ _ | show wpAny _ _ (eval (Expr.ListComp _ _ _ _) _) _ _ _ | show wpAny _ _ (exec (Stmt.Assign _ (Expr.ListComp _ _ _ _) _) _) _ _ _ | show wpAny _ _ (storeName _ _ _) _ _ _ | show wpAny _ _ (binaryOp Operator.Mod _ _) _ _ _ | show LCg.CompSrc _ _ _ _ _ _ _ _ _ _ _ _ _ _ | show wpAny _ _ (binaryOp Operator.Add (Value.str _ _) (Value.str _ _)) _ _ _))); first | (k_end; wrow_close) | walk1 | (dsimp only; walk1) | (leave1; walk_say "STEP leave1"; try dsimp only) | fail "no step")))
  try dsimp only
  refine wpC_callP (P := Frag.In (Mine.Head.hd.heap_39 w.params)) (keeps_K (by k_is)) ?_
  (repeat' (first | (k_unfold; (try dsimp only)) | ((fail_if_success (with_reducible (first | show InvEndN _ _ _ _ _ _ _ | show KswEnd _ _ _ _ _ _ _ _ _ _ _ _ | show WdEnd _ _ _ _ _ _ _ _ _ _ _ | show SrcStep _ _ _ _ _ _ _ _ _ _ _ _ _ _ | show LCg.CompEnd _ _ _ _ _ _ _ _ _ _ _ _ _ _ | show wpAny _ _ (pyIter _) _ _ _ | show wpAny _ _ (call (Value.builtin "str.join") _ _) _ _ _ | show wpAny _ _ (call (Value.ref _) _ _) _ _ _ | show wpAny _ _ (exec (Stmt.While _ _ _ _) _) _ _ _ | show wpAny _ _ (binaryOp Operator.LShift _ _) _ _ _ | show wpAny _ _ (binaryOp Operator.Mult _ _) _ _ _ | show wpAny _ _ (binaryOp Operator.Pow _ _) _ _ _ | show wpAny _ _ (eval (Expr.ListComp _ _ _ _) _) _ _ _ | show wpAny _ _ (exec (Stmt.Assign _ (Expr.ListComp _ _ _ _) _) _) _ _ _ | show wpAny _ _ (storeName _ _ _) _ _ _ | show wpAny _ _ (binaryOp Operator.Mod _ _) _ _ _ | show LCg.CompSrc _ _ _ _ _ _ _ _ _ _ _ _ _ _ | show wpAny _ _ (binaryOp Operator.Add (Value.str _ _) (Value.str _ _)) _ _ _))); first | (k_end; wrow_close) | walk1 | (dsimp only; walk1) | (leave1; walk_say "STEP leave1"; try dsimp only) | fail "no step")))
  try dsimp only
  refine PyProof.Rows.mod_int' (by decide) ?_
  rw [show [d0, d1, d2, d3, d4, d5].getD (Int.toNat 1) 0 = d1 from rfl]
  obtain ⟨r1, hr1, hr1'⟩ := modK d1 4 (by decide)
  rw [show d1.fmod 4 = (r1 : Int) from hr1]
  clear hr1
  (repeat' (first | (k_unfold; (try dsimp only)) | ((fail_if_success (with_reducible (first | show InvEndN _ _ _ _ _ _ _ | show KswEnd _ _ _ _ _ _ _ _ _ _ _ _ | show WdEnd _ _ _ _ _ _ _ _ _ _ _ | show SrcStep _ _ _ _ _ _ _ _ _ _ _ _ _ _ | show LCg.CompEnd _ _ _ _ _ _ _ _ _ _ _ _ _ _ | show wpAny _ _ (pyIter _) _ _ _ | show wpAny _ _ (call (Value.builtin "str.join") _ _) _ _ _ | show wpAny _ _ (call (Value.ref _) _ _) _ _ _ | show wpAny _ _ (exec (Stmt.While _ _ _ _) _) _ _ _ | show wpAny _ _ (binaryOp Operator.LShift _ _) _ _ _ | show wpAny _ _ (binaryOp Operator.Mult _ _) _ _ _ | show wpAny _ _ (binaryOp Operator.Pow _ _) _ _ _ | show wpAny _ _ (eval (Expr.ListComp _ _ _ _) _) _ _ _ | show wpAny _ _ (exec (Stmt.Assign _ (Expr.ListComp _ _ _ _) _) _) _ _ _ | show wpAny _ _ (storeName _ _ _) _ _ _ | show wpAny _ _ (binaryOp Operator.Mod _ _) _ _ _ | show LCg.CompSrc _ _ _ _ _ _ _ _ _ _ _ _ _ _ | show wpAny _ _ (binaryOp Operator.Add (Value.str _ _) (Value.str _ _)) _ _ _))); first | (k_end; wrow_close) | walk1 | (dsimp only; walk1) | (leave1; walk_say "STEP leave1"; try dsimp only) | fail "no step")))
  try dsimp only
  refine SB.mul (mulOk_of 1 90 (by decide) (by (first | lia | omega)) (by (first | lia | omega)) (by decide) (by decide)) ?_
  intro t7 k7
  have hb1 : sg (Txt.mul (PySem.Str.ofString "_") (r1 : Int)) = List.replicate r1 95 := by
    rw [show PySem.Str.ofString "_" = ⟨#[95]⟩ from by decide]
    exact (mul_one_list 95 r1).trans (by rw [Int.toNat_natCast])
  have hb1l : (Txt.mul (PySem.Str.ofString "_") (r1 : Int)).length = r1 := by rw [← sg_len, hb1, List.length_replicate]
  generalize Txt.mul (PySem.Str.ofString "_") (r1 : Int) = xb at hb1 hb1l ⊢
  (repeat' (first | (k_unfold; (try dsimp only)) | ((fail_if_success (with_reducible (first | show InvEndN _ _ _ _ _ _ _ | show KswEnd _ _ _ _ _ _ _ _ _ _ _ _ | show WdEnd _ _ _ _ _ _ _ _ _ _ _ | show SrcStep _ _ _ _ _ _ _ _ _ _ _ _ _ _ | show LCg.CompEnd _ _ _ _ _ _ _ _ _ _ _ _ _ _ | show wpAny _ _ (pyIter _) _ _ _ | show wpAny _ _ (call (Value.builtin "str.join") _ _) _ _ _ | show wpAny _ _ (call (Value.ref _) _ _) _ _ _ | show wpAny _ _ (exec (Stmt.While _ _ _ _) _) _ _ _ | show wpAny _ _ (binaryOp Operator.LShift _ _) _ _ _ | show wpAny _ _ (binaryOp Operator.Mult _ _) _ _ _ | show wpAny _ _ (binaryOp Operator.Pow _ _) _ _ _ | show wpAny _ _ (eval (Expr.ListComp _ _ _ _) _) _ _ _ | show wpAny _ _ (exec (Stmt.Assign _ (Expr.ListComp _ _ _ _) _) _) _ _ _ | show wpAny _ _ (storeName _ _ _) _ _ _ | show wpAny _ _ (binaryOp Operator.Mod _ _) _ _ _ | show LCg.CompSrc _ _ _ _ _ _ _ _ _ _ _ _ _ _ | show wpAny _ _ (binaryOp Operator.Add (Value.str _ _) (Value.str _ _)) _ _ _))); first | (k_end; wrow_close) | walk1 | (dsimp only; walk1) | (leave1; walk_say "STEP leave1"; try dsimp only) | fail "no step")))
  try dsimp only
  refine PyProof.Rows.mod_int' (by decide) ?_
  rw [show [d0, d1, d2, d3, d4, d5].getD (Int.toNat 3) 0 = d3 from rfl]
  obtain ⟨r3, hr3, hr3'⟩ := modK d3 3 (by decide)
  rw [show d3.fmod 3 = (r3 : Int) from hr3]
  clear hr3
  (repeat' (first | (k_unfold; (try dsimp only)) | ((fail_if_success (with_reducible (first | show InvEndN _ _ _ _ _ _ _ | show KswEnd _ _ _ _ _ _ _ _ _ _ _ _ | show WdEnd _ _ _ _ _ _ _ _ _ _ _ | show SrcStep _ _ _ _ _ _ _ _ _ _ _ _ _ _ | show LCg.CompEnd _ _ _ _ _ _ _ _ _ _ _ _ _ _ | show wpAny _ _ (pyIter _) _ _ _ | show wpAny _ _ (call (Value.builtin "str.join") _ _) _ _ _ | show wpAny _ _ (call (Value.ref _) _ _) _ _ _ | show wpAny _ _ (exec (Stmt.While _ _ _ _) _) _ _ _ | show wpAny _ _ (binaryOp Operator.LShift _ _) _ _ _ | show wpAny _ _ (binaryOp Operator.Mult _ _) _ _ _ | show wpAny _ _ (binaryOp Operator.Pow _ _) _ _ _ | show wpAny _ _ (eval (Expr.ListComp _ _ _ _) _) _ _ _ | show wpAny _ _ (exec (Stmt.Assign _ (Expr.ListComp _ _ _ _) _) _) _ _ _ | show wpAny _ _ (storeName _ _ _) _ _ _ | show wpAny _ _ (binaryOp Operator.Mod _ _) _ _ _ | show LCg.CompSrc _ _ _ _ _ _ _ _ _ _ _ _ _ _ | show wpAny _ _ (binaryOp Operator.Add (Value.str _ _) (Value.str _ _)) _ _ _))); first | (k_end; wrow_close) | walk1 | (dsimp only; walk1) | (leave1; walk_say "STEP leave1"; try dsimp only) | fail "no step")))
  try dsimp only
  refine SB.mul (mulOk_of 1 90 (by decide) (by (first | lia | omega)) (by (first | lia | omega)) (by decide) (by decide)) ?_
  intro t8 k8
  have hb3 : sg (Txt.mul (PySem.Str.ofString " ") (r3 : Int)) = List.replicate r3 32 := by
    rw [show PySem.Str.ofString " " = ⟨#[32]⟩ from by decide]
    exact (mul_one_list 32 r3).trans (by rw [Int.toNat_natCast])
  have hb3l : (Txt.mul (PySem.Str.ofString " ") (r3 : Int)).length = r3 := by rw [← sg_len, hb3, List.length_replicate]
  generalize Txt.mul (PySem.Str.ofString " ") (r3 : Int) = xs at hb3 hb3l ⊢
  (repeat' (first | (k_unfold; (try dsimp only)) | ((fail_if_success (with_reducible (first | show InvEndN _ _ _ _ _ _ _ | show KswEnd _ _ _ _ _ _ _ _ _ _ _ _ | show WdEnd _ _ _ _ _ _ _ _ _ _ _ | show SrcStep _ _ _ _ _ _ _ _ _ _ _ _ _ _ | show LCg.CompEnd _ _ _ _ _ _ _ _ _ _ _ _ _ _ | show wpAny _ _ (pyIter _) _ _ _ | show wpAny _ _ (call (Value.builtin "str.join") _ _) _ _ _ | show wpAny _ _ (call (Value.ref _) _ _) _ _ _ | show wpAny _ _ (exec (Stmt.While _ _ _ _) _) _ _ _ | show wpAny _ _ (binaryOp Operator.LShift _ _) _ _ _ | show wpAny _ _ (binaryOp Operator.Mult _ _) _ _ _ | show wpAny _ _ (binaryOp Operator.Pow _ _) _ _ _ | show wpAny _ _ (eval (Expr.ListComp _ _ _ _) _) _ _ _ | show wpAny _ _ (exec (Stmt.Assign _ (Expr.ListComp _ _ _ _) _) _) _ _ _ | show wpAny _ _ (storeName _ _ _) _ _ _ | show wpAny _ _ (binaryOp Operator.Mod _ _) _ _ _ | show LCg.CompSrc _ _ _ _ _ _ _ _ _ _ _ _ _ _ | show wpAny _ _ (binaryOp Operator.Add (Value.str _ _) (Value.str _ _)) _ _ _))); first | (k_end; wrow_close) | walk1 | (dsimp only; walk1) | (leave1; walk_say "STEP leave1"; try dsimp only) | fail "no step")))
  try dsimp only
  refine SB.add ?_ (by rw [sizeLine_eq]; (first | lia | omega))
  intro t9 k9
  have hz : sg (xb ++ xs) = List.replicate r1 95 ++ List.replicate r3 32 := by rw [sg_append, hb1, hb3]
  have hzl : (xb ++ xs).length = r1 + r3 := by rw [← sg_len, hz, List.length_append, List.length_replicate, List.length_replicate]
  generalize xb ++ xs = z at hz hzl ⊢
  (repeat' (first | (k_unfold; (try dsimp only)) | ((fail_if_success (with_reducible (first | show InvEndN _ _ _ _ _ _ _ | show KswEnd _ _ _ _ _ _ _ _ _ _ _ _ | show WdEnd _ _ _ _ _ _ _ _ _ _ _ | show SrcStep _ _ _ _ _ _ _ _ _ _ _ _ _ _ | show LCg.CompEnd _ _ _ _ _ _ _ _ _ _ _ _ _ _ | show wpAny _ _ (pyIter _) _ _ _ | show wpAny _ _ (call (Value.builtin "str.join") _ _) _ _ _ | show wpAny _ _ (call (Value.ref _) _ _) _ _ _ | show wpAny _ _ (exec (Stmt.While _ _ _ _) _) _ _ _ | show wpAny _ _ (binaryOp Operator.LShift _ _) _ _ _ | show wpAny _ _ (binaryOp Operator.Mult _ _) _ _ _ | show wpAny _ _ (binaryOp Operator.Pow _ _) _ _ _ | show wpAny _ _ (eval (Expr.ListComp _ _ _ _) _) _ _ _ | show wpAny _ _ (exec (Stmt.Assign _ (Expr.ListComp _ _ _ _) _) _) _ _ _ | show wpAny _ _ (storeName _ _ _) _ _ _ | show wpAny _ _ (binaryOp Operator.Mod _ _) _ _ _ | show LCg.CompSrc _ _ _ _ _ _ _ _ _ _ _ _ _ _ | show wpAny _ _ (binaryOp Operator.Add (Value.str _ _) (Value.str _ _)) _ _ _))); first | (k_end; wrow_close) | walk1 | (dsimp only; walk1) | (leave1; walk_say "STEP leave1"; try dsimp only) | fail "no step")))
  try dsimp only
  rename Fr h₀ L _ _ => F8
  rename News h₀ L _ _ => N8
  refine c_refused (body := List.replicate r1 95) (blanks := List.replicate r3 32) (.inl ⟨c', H6⟩) C X T hz (by (first | lia | omega)) ?_ ?_ ?_ (by rw [only_bars]; exact Nat.zero_le _) (by rw [only_bars]; exact List.forall_mem_nil _) (.inl (only_bars _)) (by assumption) F8 (by assumption) N8 (by assumption) rfl (by ktr_room) (by ktr_units) ?_
  · rw [hz]
    intro d hd
    rcases List.mem_append.mp hd with hd | hd <;> rw [(List.mem_replicate.mp hd).2] <;> decide
  · intro d hd
    rw [(List.mem_replicate.mp hd).2]; decide
  · intro d hd
    rw [(List.mem_replicate.mp (List.mem_of_getLast? hd)).2]; decide
  intro h10 tk10 dr10 c2 newsY TT2 F10 N10
  obtain ⟨oc2, H10, N10'⟩ := tab_again N8 TT2 N10
  clear N10 TT2
  (repeat' (first | (k_unfold; (try dsimp only)) | ((fail_if_success (with_reducible (first | show InvEndN _ _ _ _ _ _ _ | show KswEnd _ _ _ _ _ _ _ _ _ _ _ _ | show WdEnd _ _ _ _ _ _ _ _ _ _ _ | show SrcStep _ _ _ _ _ _ _ _ _ _ _ _ _ _ | show LCg.CompEnd _ _ _ _ _ _ _ _ _ _ _ _ _ _ | show wpAny _ _ (pyIter _) _ _ _ | show wpAny _ _ (call (Value.builtin "str.join") _ _) _ _ _ | show wpAny _ _ (call (Value.ref _) _ _) _ _ _ | show wpAny _ _ (exec (Stmt.While _ _ _ _) _) _ _ _ | show wpAny _ _ (binaryOp Operator.LShift _ _) _ _ _ | show wpAny _ _ (binaryOp Operator.Mult _ _) _ _ _ | show wpAny _ _ (binaryOp Operator.Pow _ _) _ _ _ | show wpAny _ _ (eval (Expr.ListComp _ _ _ _) _) _ _ _ | show wpAny _ _ (exec (Stmt.Assign _ (Expr.ListComp _ _ _ _) _) _) _ _ _ | show wpAny _ _ (storeName _ _ _) _ _ _ | show wpAny _ _ (binaryOp Operator.Mod _ _) _ _ _ | show LCg.CompSrc _ _ _ _ _ _ _ _ _ _ _ _ _ _ | show wpAny _ _ (binaryOp Operator.Add (Value.str _ _) (Value.str _ _)) _ _ _))); first | (k_end; wrow_close) | walk1 | (dsimp only; walk1) | (leave1; walk_say "STEP leave1"; try dsimp only) | fail "no step")))
  refine wpC_any ?_
  (repeat' (first | (k_unfold; (try dsimp only)) | ((fail_if_success (with_reducible (first | show InvEndN _ _ _ _ _ _ _ | show KswEnd _ _ _ _ _ _ _ _ _ _ _ _ | show WdEnd _ _ _ _ _ _ _ _ _ _ _ | show SrcStep _ _ _ _ _ _ _ _ _ _ _ _ _ _ | show LCg.CompEnd _ _ _ _ _ _ _ _ _ _ _ _ _ _ | show wpAny _ _ (pyIter _) _ _ _ | show wpAny _ _ (call (Value.builtin "str.join") _ _) _ _ _ | show wpAny _ _ (call (Value.ref _) _ _) _ _ _ | show wpAny _ _ (exec (Stmt.While _ _ _ _) _) _ _ _ | show wpAny _ _ (binaryOp Operator.LShift _ _) _ _ _ | show wpAny _ _ (binaryOp Operator.Mult _ _) _ _ _ | show wpAny _ _ (binaryOp Operator.Pow _ _) _ _ _ | show wpAny _ _ (eval (Expr.ListComp _ _ _ _) _) _ _ _ | show wpAny _ _ (exec (Stmt.Assign _ (Expr.ListComp _ _ _ _) _) _) _ _ _ | show wpAny _ _ (storeName _ _ _) _ _ _ | show wpAny _ _ (binaryOp Operator.Mod _ _) _ _ _ | show LCg.CompSrc _ _ _ _ _ _ _ _ _ _ _ _ _ _ | show wpAny _ _ (binaryOp Operator.Add (Value.str _ _) (Value.str _ _)) _ _ _))); first | (k_end; wrow_close) | walk1 | (dsimp only; walk1) | (leave1; walk_say "STEP leave1"; try dsimp only) | fail "no step")))
  try dsimp only
  refine' law6 hdef' hk4 hn2 hnr2 H10 hx1 hx2 hdig hval C B (frAt F10 ?fr) X N10' T hd hu hret
  case fr => repeat' (first | exact List.forall_mem_nil _ | refine List.forall_mem_cons.mpr ⟨rfl, ?_⟩)

theorem reset_D4 : True := by
  w_top off
  exact trivial
theorem down100 (d : Int) : ∃ q : Nat, d.fmod 100 = (q : Int) ∧ q ≤ 99 := by
  have h1 := Int.fmod_nonneg_of_pos d (b := 100) (by decide)
  have h2 := Int.fmod_lt_of_pos d (b := 100) (by decide)
  exact ⟨(d.fmod 100).toNat, by (first | lia | omega), by (first | lia | omega)⟩
theorem dbl_int {v : Nat} {b : Int} (h0 : 0 ≤ b) : 2 * (v : Int) + b = ((2 * v + b.toNat : Nat) : Int) := by (first | lia | omega)
set_option maxHeartbeats 8000000 in
theorem law4 {params : Arguments} {body : List Stmt} {scope : Scope} (hdef : lawOf = (params, body, scope)) {D : Addr} {d0 d1 d2 d3 d4 d5 : Int} {u0 u1 u2 u3 u4 u5 : Tok} {n nr k : Nat} {v1 v2 v3 v4 v5 : Tok} (hk4 : k = 4096) (hn2 : n < 2 ^ 600) (hnr2 : nr < 2 ^ 600) {v M : Nat} {v8 v9 : Tok} (hM1 : 2050 ≤ M) (hM2 : M ≤ 2329) (hv1 : 10 ^ M ≤ v) (hv2 : v < 2 * 10 ^ M)
    (C : CodeHd h₀ 28 24)
    (B : Below A₀ h₀ [] h₀) (F : Fr h₀ L s.heap (kstB m [(PySem.Str.ofString "draws", .ref D), (PySem.Str.ofString "threes", .int ((rep 3 k : Nat) : Int) v1), (PySem.Str.ofString "eights", .int ((rep 8 k : Nat) : Int) v2), (PySem.Str.ofString "number", .int (n : Int) v3), (PySem.Str.ofString "packed", .int ((bcd n : Nat) : Int) v4), (PySem.Str.ofString "near", .int (nr : Int) v5), (PySem.Str.ofString "wide", .int (v : Int) v8), (PySem.Str.ofString "row", .int ((bcd v : Nat) : Int) v9)])) (X : Frag.In (Mine.Head.hd.heap_39 w.params) h₀)
    (N : News h₀ L s.heap [(D, LCg.lst [.int d0 u0, .int d1 u1, .int d2 u2, .int d3 u3, .int d4 u4, .int d5 u5]), (24, tabObj #[])]) (T : Top p loose mean mg mb h₀) (hd : dp + 20 < recursionLimit) (hu : un + 100 < cLine) {Q : Flow → Shared → Prop}
    (hret : ∀ h' tk' dr' m' c', Fr h₀ L h' m' → News h₀ L h' [(24, tabObj #[rawInt 46, rawInt 4, .ref c'])] → Q (.ret (.bool true)) { s with heap := h', toks := tk', drawn := dr' }) :
    wpC (model Challenge.rw_lo0013_01.row.prog w) (ktrTop dp un gd (PySem.Str.ofString "law") scope L a ccd [(PySem.Str.ofString "cells", L + 1)] []) (execs (body.drop 10) (envX (PySem.Str.ofString "law") scope L a ccd [(PySem.Str.ofString "cells", L + 1)])) Q (fun _ _ => False) s := by
  have e : lawOf = (_, [_, _, _, _, _, _, _, _, _, _, _, _, _, _, _, _, _, _, _], _) := rfl
  rw [e] at hdef
  have hdef' := hdef
  cases hdef
  dsimp only [List.drop]
  refine wpC_execs_consA ?_
  refine For_invVF F rfl rfl ?_
  (repeat' (first | (k_unfold; (try dsimp only)) | ((fail_if_success (with_reducible (first | show InvEndN _ _ _ _ _ _ _ | show KswEnd _ _ _ _ _ _ _ _ _ _ _ _ | show WdEnd _ _ _ _ _ _ _ _ _ _ _ | show SrcStep _ _ _ _ _ _ _ _ _ _ _ _ _ _ | show LCg.CompEnd _ _ _ _ _ _ _ _ _ _ _ _ _ _ | show wpAny _ _ (pyIter _) _ _ _ | show wpAny _ _ (call (Value.builtin "str.join") _ _) _ _ _ | show wpAny _ _ (call (Value.ref _) _ _) _ _ _ | show wpAny _ _ (exec (Stmt.While _ _ _ _) _) _ _ _ | show wpAny _ _ (binaryOp Operator.LShift _ _) _ _ _ | show wpAny _ _ (binaryOp Operator.Mult _ _) _ _ _ | show wpAny _ _ (binaryOp Operator.Pow _ _) _ _ _ | show wpAny _ _ (eval (Expr.ListComp _ _ _ _) _) _ _ _ | show wpAny _ _ (exec (Stmt.Assign _ (Expr.ListComp _ _ _ _) _) _) _ _ _ | show wpAny _ _ (storeName _ _ _) _ _ _ | show wpAny _ _ (binaryOp Operator.Mod _ _) _ _ _ | show LCg.CompSrc _ _ _ _ _ _ _ _ _ _ _ _ _ _ | show wpAny _ _ (binaryOp Operator.Add (Value.str _ _) (Value.str _ _)) _ _ _))); first | (k_end; wrow_close) | walk1 | (dsimp only; walk1) | (leave1; walk_say "STEP leave1"; try dsimp only) | fail "no step")))
  try dsimp only
  refine PyProof.Rows.mod_int' (by decide) ?_
  rw [show [d0, d1, d2, d3, d4, d5].getD (Int.toNat 4) 0 = d4 from rfl]
  obtain ⟨q, hq, hq2⟩ := down100 d4
  rw [hq]
  clear hq
  (repeat' (first | (k_unfold; (try dsimp only)) | ((fail_if_success (with_reducible (first | show InvEndN _ _ _ _ _ _ _ | show KswEnd _ _ _ _ _ _ _ _ _ _ _ _ | show WdEnd _ _ _ _ _ _ _ _ _ _ _ | show SrcStep _ _ _ _ _ _ _ _ _ _ _ _ _ _ | show LCg.CompEnd _ _ _ _ _ _ _ _ _ _ _ _ _ _ | show wpAny _ _ (pyIter _) _ _ _ | show wpAny _ _ (call (Value.builtin "str.join") _ _) _ _ _ | show wpAny _ _ (call (Value.ref _) _ _) _ _ _ | show wpAny _ _ (exec (Stmt.While _ _ _ _) _) _ _ _ | show wpAny _ _ (binaryOp Operator.LShift _ _) _ _ _ | show wpAny _ _ (binaryOp Operator.Mult _ _) _ _ _ | show wpAny _ _ (binaryOp Operator.Pow _ _) _ _ _ | show wpAny _ _ (eval (Expr.ListComp _ _ _ _) _) _ _ _ | show wpAny _ _ (exec (Stmt.Assign _ (Expr.ListComp _ _ _ _) _) _) _ _ _ | show wpAny _ _ (storeName _ _ _) _ _ _ | show wpAny _ _ (binaryOp Operator.Mod _ _) _ _ _ | show LCg.CompSrc _ _ _ _ _ _ _ _ _ _ _ _ _ _ | show wpAny _ _ (binaryOp Operator.Add (Value.str _ _) (Value.str _ _)) _ _ _))); first | (k_end; wrow_close) | walk1 | (dsimp only; walk1) | (leave1; walk_say "STEP leave1"; try dsimp only) | fail "no step")))
  try dsimp only
  rename IsRange _ _ _ _ _ _ _ _ => rg
  refine' kst_rangeD (σ := Nat × Tok × Tok) (n := q + 1) (fun _ => [(D, LCg.lst [.int d0 u0, .int d1 u1, .int d2 u2, .int d3 u3, .int d4 u4, .int d5 u5]), (24, tabObj #[])]) (fun c => [(PySem.Str.ofString "wide", Value.int (c.1 : Int) c.2.1), (PySem.Str.ofString "row", Value.int ((bcd c.1 : Nat) : Int) c.2.2)]) (fun _ => True) []
    (fun pre c => 10 ^ M ≤ c.1 ∧ c.1 < 2 ^ (pre.length + 1) * 10 ^ M) (v, _, _)
    rfl rg (small_down (by (first | lia | omega)) (by (first | lia | omega)) (by (first | lia | omega)) (by (first | lia | omega))) (by rw [rangeSize_downNat]; (first | lia | omega)) (by assumption) (by assumption) trivial (List.forall_mem_cons.mpr ⟨rfl, List.forall_mem_cons.mpr ⟨rfl, List.forall_mem_nil _⟩⟩) ?_ ?_ ?_
  · exact ⟨hv1, by rw [List.length_nil]; exact hv2⟩
  · rintro ⟨v, tv, tr⟩ pre kk t u h tk own hkk hlt off hf hP F1 N1
    dsimp only at hP F1 N1 ⊢
    have hvb := dbl_small (i := pre.length) (by (first | lia | omega)) hM2 hP.2
    have hb1 := bits_dec hvb
    (repeat' (first | (k_unfold; (try dsimp only)) | ((fail_if_success (with_reducible (first | show InvEndN _ _ _ _ _ _ _ | show KswEnd _ _ _ _ _ _ _ _ _ _ _ _ | show WdEnd _ _ _ _ _ _ _ _ _ _ _ | show SrcStep _ _ _ _ _ _ _ _ _ _ _ _ _ _ | show LCg.CompEnd _ _ _ _ _ _ _ _ _ _ _ _ _ _ | show wpAny _ _ (pyIter _) _ _ _ | show wpAny _ _ (call (Value.builtin "str.join") _ _) _ _ _ | show wpAny _ _ (call (Value.ref _) _ _) _ _ _ | show wpAny _ _ (exec (Stmt.While _ _ _ _) _) _ _ _ | show wpAny _ _ (binaryOp Operator.LShift _ _) _ _ _ | show wpAny _ _ (binaryOp Operator.Mult _ _) _ _ _ | show wpAny _ _ (binaryOp Operator.Pow _ _) _ _ _ | show wpAny _ _ (eval (Expr.ListComp _ _ _ _) _) _ _ _ | show wpAny _ _ (exec (Stmt.Assign _ (Expr.ListComp _ _ _ _) _) _) _ _ _ | show wpAny _ _ (storeName _ _ _) _ _ _ | show wpAny _ _ (binaryOp Operator.Mod _ _) _ _ _ | show LCg.CompSrc _ _ _ _ _ _ _ _ _ _ _ _ _ _ | show wpAny _ _ (binaryOp Operator.Add (Value.str _ _) (Value.str _ _)) _ _ _))); first | (k_end; wrow_close) | walk1 | (dsimp only; walk1) | (leave1; walk_say "STEP leave1"; try dsimp only) | fail "no step")))
    try dsimp only
    refine PyProof.Rows.mul_int ?_ (mul_ok (by rw [show Builtin.Int.intBits 2 = 2 from by decide +kernel]; (first | lia | omega)))
    (repeat' (first | (k_unfold; (try dsimp only)) | ((fail_if_success (with_reducible (first | show InvEndN _ _ _ _ _ _ _ | show KswEnd _ _ _ _ _ _ _ _ _ _ _ _ | show WdEnd _ _ _ _ _ _ _ _ _ _ _ | show SrcStep _ _ _ _ _ _ _ _ _ _ _ _ _ _ | show LCg.CompEnd _ _ _ _ _ _ _ _ _ _ _ _ _ _ | show wpAny _ _ (pyIter _) _ _ _ | show wpAny _ _ (call (Value.builtin "str.join") _ _) _ _ _ | show wpAny _ _ (call (Value.ref _) _ _) _ _ _ | show wpAny _ _ (exec (Stmt.While _ _ _ _) _) _ _ _ | show wpAny _ _ (binaryOp Operator.LShift _ _) _ _ _ | show wpAny _ _ (binaryOp Operator.Mult _ _) _ _ _ | show wpAny _ _ (binaryOp Operator.Pow _ _) _ _ _ | show wpAny _ _ (eval (Expr.ListComp _ _ _ _) _) _ _ _ | show wpAny _ _ (exec (Stmt.Assign _ (Expr.ListComp _ _ _ _) _) _) _ _ _ | show wpAny _ _ (storeName _ _ _) _ _ _ | show wpAny _ _ (binaryOp Operator.Mod _ _) _ _ _ | show LCg.CompSrc _ _ _ _ _ _ _ _ _ _ _ _ _ _ | show wpAny _ _ (binaryOp Operator.Add (Value.str _ _) (Value.str _ _)) _ _ _))); first | (k_end; wrow_close) | walk1 | (dsimp only; walk1) | (leave1; walk_say "STEP leave1"; try dsimp only) | fail "no step")))
    rw [show [d0, d1, d2, d3, d4, d5].getD (Int.toNat 3) 0 = d3 from rfl]
    have hb := bit_range (d3.fdiv (2 ^ kk.toNat))
    generalize hbb : Builtin.bitAnd (d3.fdiv (2 ^ kk.toNat)) 1 = bt at hb
    rw [dbl_int hb.1]
    try dsimp only
    walk1
    (repeat' (first | (k_unfold; (try dsimp only)) | ((fail_if_success (with_reducible (first | show InvEndN _ _ _ _ _ _ _ | show KswEnd _ _ _ _ _ _ _ _ _ _ _ _ | show WdEnd _ _ _ _ _ _ _ _ _ _ _ | show SrcStep _ _ _ _ _ _ _ _ _ _ _ _ _ _ | show LCg.CompEnd _ _ _ _ _ _ _ _ _ _ _ _ _ _ | show wpAny _ _ (pyIter _) _ _ _ | show wpAny _ _ (call (Value.builtin "str.join") _ _) _ _ _ | show wpAny _ _ (call (Value.ref _) _ _) _ _ _ | show wpAny _ _ (exec (Stmt.While _ _ _ _) _) _ _ _ | show wpAny _ _ (binaryOp Operator.LShift _ _) _ _ _ | show wpAny _ _ (binaryOp Operator.Mult _ _) _ _ _ | show wpAny _ _ (binaryOp Operator.Pow _ _) _ _ _ | show wpAny _ _ (eval (Expr.ListComp _ _ _ _) _) _ _ _ | show wpAny _ _ (exec (Stmt.Assign _ (Expr.ListComp _ _ _ _) _) _) _ _ _ | show wpAny _ _ (storeName _ _ _) _ _ _ | show wpAny _ _ (binaryOp Operator.Mod _ _) _ _ _ | show LCg.CompSrc _ _ _ _ _ _ _ _ _ _ _ _ _ _ | show wpAny _ _ (binaryOp Operator.Add (Value.str _ _) (Value.str _ _)) _ _ _))); first | (k_end; wrow_close) | walk1 | (dsimp only; walk1) | (leave1; walk_say "STEP leave1"; try dsimp only) | fail "no step")))
    try dsimp only
    rw [show [d0, d1, d2, d3, d4, d5].getD (Int.toNat 3) 0 = d3 from rfl, hbb]
    refine c_doubled (k := k) (n := v) (by (first | lia | omega)) rfl rfl rfl (Nat.lt_of_lt_of_le hvb (Nat.pow_le_pow_right (by decide) (by (first | lia | omega)))) hb.1 hb.2 (by assumption) (by assumption) (by assumption) (by assumption) (by assumption) rfl (by ktr_room) (by ktr_units) ?_
    intro t9 h9 tk9 F9' N9'
    (repeat' (first | (k_unfold; (try dsimp only)) | ((fail_if_success (with_reducible (first | show InvEndN _ _ _ _ _ _ _ | show KswEnd _ _ _ _ _ _ _ _ _ _ _ _ | show WdEnd _ _ _ _ _ _ _ _ _ _ _ | show SrcStep _ _ _ _ _ _ _ _ _ _ _ _ _ _ | show LCg.CompEnd _ _ _ _ _ _ _ _ _ _ _ _ _ _ | show wpAny _ _ (pyIter _) _ _ _ | show wpAny _ _ (call (Value.builtin "str.join") _ _) _ _ _ | show wpAny _ _ (call (Value.ref _) _ _) _ _ _ | show wpAny _ _ (exec (Stmt.While _ _ _ _) _) _ _ _ | show wpAny _ _ (binaryOp Operator.LShift _ _) _ _ _ | show wpAny _ _ (binaryOp Operator.Mult _ _) _ _ _ | show wpAny _ _ (binaryOp Operator.Pow _ _) _ _ _ | show wpAny _ _ (eval (Expr.ListComp _ _ _ _) _) _ _ _ | show wpAny _ _ (exec (Stmt.Assign _ (Expr.ListComp _ _ _ _) _) _) _ _ _ | show wpAny _ _ (storeName _ _ _) _ _ _ | show wpAny _ _ (binaryOp Operator.Mod _ _) _ _ _ | show LCg.CompSrc _ _ _ _ _ _ _ _ _ _ _ _ _ _ | show wpAny _ _ (binaryOp Operator.Add (Value.str _ _) (Value.str _ _)) _ _ _))); first | (k_end; wrow_close) | walk1 | (dsimp only; walk1) | (leave1; walk_say "STEP leave1"; try dsimp only) | fail "no step")))
    try dsimp only
    walk1
    (repeat' (first | (k_unfold; (try dsimp only)) | ((fail_if_success (with_reducible (first | show InvEndN _ _ _ _ _ _ _ | show KswEnd _ _ _ _ _ _ _ _ _ _ _ _ | show WdEnd _ _ _ _ _ _ _ _ _ _ _ | show SrcStep _ _ _ _ _ _ _ _ _ _ _ _ _ _ | show LCg.CompEnd _ _ _ _ _ _ _ _ _ _ _ _ _ _ | show wpAny _ _ (pyIter _) _ _ _ | show wpAny _ _ (call (Value.builtin "str.join") _ _) _ _ _ | show wpAny _ _ (call (Value.ref _) _ _) _ _ _ | show wpAny _ _ (exec (Stmt.While _ _ _ _) _) _ _ _ | show wpAny _ _ (binaryOp Operator.LShift _ _) _ _ _ | show wpAny _ _ (binaryOp Operator.Mult _ _) _ _ _ | show wpAny _ _ (binaryOp Operator.Pow _ _) _ _ _ | show wpAny _ _ (eval (Expr.ListComp _ _ _ _) _) _ _ _ | show wpAny _ _ (exec (Stmt.Assign _ (Expr.ListComp _ _ _ _) _) _) _ _ _ | show wpAny _ _ (storeName _ _ _) _ _ _ | show wpAny _ _ (binaryOp Operator.Mod _ _) _ _ _ | show LCg.CompSrc _ _ _ _ _ _ _ _ _ _ _ _ _ _ | show wpAny _ _ (binaryOp Operator.Add (Value.str _ _) (Value.str _ _)) _ _ _))); first | (k_end; wrow_close) | walk1 | (dsimp only; walk1) | (leave1; walk_say "STEP leave1"; try dsimp only) | fail "no step")))
    rename Fr h₀ L _ _ => F9
    rename News h₀ L _ _ => N9
    refine' kst_end (c := (_, _, _)) F9 N9 (fun _ hp => List.mem_append_left _ hp) (fun _ hp => List.mem_append_right _ hp) rfl trivial (List.forall_mem_cons.mpr ⟨rfl, List.forall_mem_cons.mpr ⟨rfl, List.forall_mem_nil _⟩⟩) ?_ ?_
    · intro z h1 h2 _
      have h3 := h2 _ (.head _)
      have h4 := h2 _ (.tail _ (.head _))
      dsimp only at h3 h4
      simp [h1, h3, h4, kstB]
    · dsimp only
      rw [List.length_append, List.length_singleton]
      exact dbl_step (by (first | lia | omega)) hP.1 hP.2
  · rintro ⟨v, tv, tr⟩ u h tk hf hP F1 N1
    dsimp only at hP F1 N1 ⊢
    (repeat' (first | (k_unfold; (try dsimp only)) | ((fail_if_success (with_reducible (first | show InvEndN _ _ _ _ _ _ _ | show KswEnd _ _ _ _ _ _ _ _ _ _ _ _ | show WdEnd _ _ _ _ _ _ _ _ _ _ _ | show SrcStep _ _ _ _ _ _ _ _ _ _ _ _ _ _ | show LCg.CompEnd _ _ _ _ _ _ _ _ _ _ _ _ _ _ | show wpAny _ _ (pyIter _) _ _ _ | show wpAny _ _ (call (Value.builtin "str.join") _ _) _ _ _ | show wpAny _ _ (call (Value.ref _) _ _) _ _ _ | show wpAny _ _ (exec (Stmt.While _ _ _ _) _) _ _ _ | show wpAny _ _ (binaryOp Operator.LShift _ _) _ _ _ | show wpAny _ _ (binaryOp Operator.Mult _ _) _ _ _ | show wpAny _ _ (binaryOp Operator.Pow _ _) _ _ _ | show wpAny _ _ (eval (Expr.ListComp _ _ _ _) _) _ _ _ | show wpAny _ _ (exec (Stmt.Assign _ (Expr.ListComp _ _ _ _) _) _) _ _ _ | show wpAny _ _ (storeName _ _ _) _ _ _ | show wpAny _ _ (binaryOp Operator.Mod _ _) _ _ _ | show LCg.CompSrc _ _ _ _ _ _ _ _ _ _ _ _ _ _ | show wpAny _ _ (binaryOp Operator.Add (Value.str _ _) (Value.str _ _)) _ _ _))); first | (k_end; wrow_close) | walk1 | (dsimp only; walk1) | (leave1; walk_say "STEP leave1"; try dsimp only) | fail "no step")))
    rw [downKs_length] at hP
    have hvb := dbl_small (i := q + 1) (by (first | lia | omega)) hM2 hP.2
    refine' law5 hdef' hk4 hn2 hnr2 (Nat.le_trans (Nat.pow_le_pow_right (by decide) hM1) hP.1) hvb C B (frAt F1 ?fr) X N1 T hd hu hret
    case fr => repeat' (first | exact List.forall_mem_nil _ | refine List.forall_mem_cons.mpr ⟨rfl, ?_⟩)

theorem reset_D3 : True := by
  w_top off
  exact trivial
theorem even_or (k : Int) : k.fmod 2 = 0 ∨ k.fmod 2 = 1 := by
  have h1 := Int.fmod_nonneg_of_pos k (b := 2) (by decide)
  have h2 := Int.fmod_lt_of_pos k (b := 2) (by decide)
  (first | lia | omega)
set_option maxHeartbeats 8000000 in
theorem law3 {params : Arguments} {body : List Stmt} {scope : Scope} (hdef : lawOf = (params, body, scope)) {D : Addr} {d0 d1 d2 d3 d4 d5 : Int} {u0 u1 u2 u3 u4 u5 : Tok} {n nr k : Nat} {v1 v2 v3 v4 v5 : Tok} (hk4 : k = 4096) (hn2 : n < 2 ^ 600) (hnr2 : nr < 2 ^ 600) {W : Nat} {v6 v7 v8 v9 : Tok} (hW1 : 181 ≤ W) (hW2 : W ≤ 280)
    (C : CodeHd h₀ 28 24)
    (B : Below A₀ h₀ [] h₀) (F : Fr h₀ L s.heap (kstB m [(PySem.Str.ofString "draws", .ref D), (PySem.Str.ofString "threes", .int ((rep 3 k : Nat) : Int) v1), (PySem.Str.ofString "eights", .int ((rep 8 k : Nat) : Int) v2), (PySem.Str.ofString "number", .int (n : Int) v3), (PySem.Str.ofString "packed", .int ((bcd n : Nat) : Int) v4), (PySem.Str.ofString "near", .int (nr : Int) v5), (PySem.Str.ofString "width", .int (W : Int) v6), (PySem.Str.ofString "nines", .int ((rep 9 W : Nat) : Int) v7), (PySem.Str.ofString "wide", .int 1 v8), (PySem.Str.ofString "row", .int 1 v9)])) (X : Frag.In (Mine.Head.hd.heap_39 w.params) h₀)
    (N : News h₀ L s.heap [(D, LCg.lst [.int d0 u0, .int d1 u1, .int d2 u2, .int d3 u3, .int d4 u4, .int d5 u5]), (24, tabObj #[])]) (T : Top p loose mean mg mb h₀) (hd : dp + 20 < recursionLimit) (hu : un + 100 < cLine) {Q : Flow → Shared → Prop}
    (hret : ∀ h' tk' dr' m' c', Fr h₀ L h' m' → News h₀ L h' [(24, tabObj #[rawInt 46, rawInt 4, .ref c'])] → Q (.ret (.bool true)) { s with heap := h', toks := tk', drawn := dr' }) :
    wpC (model Challenge.rw_lo0013_01.row.prog w) (ktrTop dp un gd (PySem.Str.ofString "law") scope L a ccd [(PySem.Str.ofString "cells", L + 1)] []) (execs (body.drop 9) (envX (PySem.Str.ofString "law") scope L a ccd [(PySem.Str.ofString "cells", L + 1)])) Q (fun _ _ => False) s := by
  have e : lawOf = (_, [_, _, _, _, _, _, _, _, _, _, _, _, _, _, _, _, _, _, _], _) := rfl
  rw [e] at hdef
  have hdef' := hdef
  cases hdef
  dsimp only [List.drop]
  refine wpC_execs_consA ?_
  refine For_invVF F rfl rfl ?_
  (repeat' (first | (k_unfold; (try dsimp only)) | ((fail_if_success (with_reducible (first | show InvEndN _ _ _ _ _ _ _ | show KswEnd _ _ _ _ _ _ _ _ _ _ _ _ | show WdEnd _ _ _ _ _ _ _ _ _ _ _ | show SrcStep _ _ _ _ _ _ _ _ _ _ _ _ _ _ | show LCg.CompEnd _ _ _ _ _ _ _ _ _ _ _ _ _ _ | show wpAny _ _ (pyIter _) _ _ _ | show wpAny _ _ (call (Value.builtin "str.join") _ _) _ _ _ | show wpAny _ _ (call (Value.ref _) _ _) _ _ _ | show wpAny _ _ (exec (Stmt.While _ _ _ _) _) _ _ _ | show wpAny _ _ (binaryOp Operator.LShift _ _) _ _ _ | show wpAny _ _ (binaryOp Operator.Mult _ _) _ _ _ | show wpAny _ _ (binaryOp Operator.Pow _ _) _ _ _ | show wpAny _ _ (eval (Expr.ListComp _ _ _ _) _) _ _ _ | show wpAny _ _ (exec (Stmt.Assign _ (Expr.ListComp _ _ _ _) _) _) _ _ _ | show wpAny _ _ (storeName _ _ _) _ _ _ | show wpAny _ _ (binaryOp Operator.Mod _ _) _ _ _ | show LCg.CompSrc _ _ _ _ _ _ _ _ _ _ _ _ _ _ | show wpAny _ _ (binaryOp Operator.Add (Value.str _ _) (Value.str _ _)) _ _ _))); first | (k_end; wrow_close) | walk1 | (dsimp only; walk1) | (leave1; walk_say "STEP leave1"; try dsimp only) | fail "no step")))
  try dsimp only
  rename IsRange _ _ _ _ _ _ _ _ => rg
  rw [turns_int] at rg
  have hKl := turns_le hW1
  have hT := turns hW1 hW2
  generalize 2049 / W = kd at rg hKl hT
  have hnW := small_W hW1 hn2
  refine' kst_range (σ := Nat × Tok × Tok) (n := kd + 1) (fun _ => [(D, LCg.lst [.int d0 u0, .int d1 u1, .int d2 u2, .int d3 u3, .int d4 u4, .int d5 u5]), (24, tabObj #[])]) (fun c => [(PySem.Str.ofString "wide", Value.int (c.1 : Int) c.2.1), (PySem.Str.ofString "row", Value.int ((bcd c.1 : Nat) : Int) c.2.2)]) (fun _ => True) []
    (fun pre c => 10 ^ (W * pre.length) ≤ c.1 ∧ c.1 < 2 * 10 ^ (W * pre.length)) (1, _, _)
    rfl rg (small_one (by (first | lia | omega)) (by (first | lia | omega)) (by (first | lia | omega)) (by (first | lia | omega))) (by rw [rangeSize_nat]; (first | lia | omega)) (by assumption) (by assumption) trivial (List.forall_mem_cons.mpr ⟨rfl, List.forall_mem_cons.mpr ⟨by show some (Value.int 1 _) = some (Value.int ((bcd 1 : Nat) : Int) _); rw [show bcd 1 = 1 from by decide +kernel]; rfl, List.forall_mem_nil _⟩⟩) ?_ ?_ ?_
  · rw [List.length_nil, Nat.mul_zero, Nat.pow_zero]; exact ⟨Nat.le_refl _, by show 1 < 2 * 1; decide⟩
  · rintro ⟨v, tv, tr⟩ pre kk t u h tk own hkk hlt off hf hP F1 N1
    dsimp only at hP F1 N1 ⊢
    have hvb := field_small (i := pre.length) (by (first | lia | omega)) hW2 hP.2
    have hb1 := bits_dec hvb
    have hb2 := bits_bcd hvb
    have hb3 := bits_pow10 W
    (repeat' (first | (k_unfold; (try dsimp only)) | ((fail_if_success (with_reducible (first | show InvEndN _ _ _ _ _ _ _ | show KswEnd _ _ _ _ _ _ _ _ _ _ _ _ | show WdEnd _ _ _ _ _ _ _ _ _ _ _ | show SrcStep _ _ _ _ _ _ _ _ _ _ _ _ _ _ | show LCg.CompEnd _ _ _ _ _ _ _ _ _ _ _ _ _ _ | show wpAny _ _ (pyIter _) _ _ _ | show wpAny _ _ (call (Value.builtin "str.join") _ _) _ _ _ | show wpAny _ _ (call (Value.ref _) _ _) _ _ _ | show wpAny _ _ (exec (Stmt.While _ _ _ _) _) _ _ _ | show wpAny _ _ (binaryOp Operator.LShift _ _) _ _ _ | show wpAny _ _ (binaryOp Operator.Mult _ _) _ _ _ | show wpAny _ _ (binaryOp Operator.Pow _ _) _ _ _ | show wpAny _ _ (eval (Expr.ListComp _ _ _ _) _) _ _ _ | show wpAny _ _ (exec (Stmt.Assign _ (Expr.ListComp _ _ _ _) _) _) _ _ _ | show wpAny _ _ (storeName _ _ _) _ _ _ | show wpAny _ _ (binaryOp Operator.Mod _ _) _ _ _ | show LCg.CompSrc _ _ _ _ _ _ _ _ _ _ _ _ _ _ | show wpAny _ _ (binaryOp Operator.Add (Value.str _ _) (Value.str _ _)) _ _ _))); first | (k_end; wrow_close) | walk1 | (dsimp only; walk1) | (leave1; walk_say "STEP leave1"; try dsimp only) | fail "no step")))
    try dsimp only
    refine PyProof.Rows.pow_int (by (first | lia | omega)) (by rw [show Builtin.Int.intBits 10 = 4 from by decide +kernel]; (first | lia | omega)) ?_
    (repeat' (first | (k_unfold; (try dsimp only)) | ((fail_if_success (with_reducible (first | show InvEndN _ _ _ _ _ _ _ | show KswEnd _ _ _ _ _ _ _ _ _ _ _ _ | show WdEnd _ _ _ _ _ _ _ _ _ _ _ | show SrcStep _ _ _ _ _ _ _ _ _ _ _ _ _ _ | show LCg.CompEnd _ _ _ _ _ _ _ _ _ _ _ _ _ _ | show wpAny _ _ (pyIter _) _ _ _ | show wpAny _ _ (call (Value.builtin "str.join") _ _) _ _ _ | show wpAny _ _ (call (Value.ref _) _ _) _ _ _ | show wpAny _ _ (exec (Stmt.While _ _ _ _) _) _ _ _ | show wpAny _ _ (binaryOp Operator.LShift _ _) _ _ _ | show wpAny _ _ (binaryOp Operator.Mult _ _) _ _ _ | show wpAny _ _ (binaryOp Operator.Pow _ _) _ _ _ | show wpAny _ _ (eval (Expr.ListComp _ _ _ _) _) _ _ _ | show wpAny _ _ (exec (Stmt.Assign _ (Expr.ListComp _ _ _ _) _) _) _ _ _ | show wpAny _ _ (storeName _ _ _) _ _ _ | show wpAny _ _ (binaryOp Operator.Mod _ _) _ _ _ | show LCg.CompSrc _ _ _ _ _ _ _ _ _ _ _ _ _ _ | show wpAny _ _ (binaryOp Operator.Add (Value.str _ _) (Value.str _ _)) _ _ _))); first | (k_end; wrow_close) | walk1 | (dsimp only; walk1) | (leave1; walk_say "STEP leave1"; try dsimp only) | fail "no step")))
    try dsimp only
    refine PyProof.Rows.mul_int ?_ (mul_ok (by (first | lia | omega)))
    (repeat' (first | (k_unfold; (try dsimp only)) | ((fail_if_success (with_reducible (first | show InvEndN _ _ _ _ _ _ _ | show KswEnd _ _ _ _ _ _ _ _ _ _ _ _ | show WdEnd _ _ _ _ _ _ _ _ _ _ _ | show SrcStep _ _ _ _ _ _ _ _ _ _ _ _ _ _ | show LCg.CompEnd _ _ _ _ _ _ _ _ _ _ _ _ _ _ | show wpAny _ _ (pyIter _) _ _ _ | show wpAny _ _ (call (Value.builtin "str.join") _ _) _ _ _ | show wpAny _ _ (call (Value.ref _) _ _) _ _ _ | show wpAny _ _ (exec (Stmt.While _ _ _ _) _) _ _ _ | show wpAny _ _ (binaryOp Operator.LShift _ _) _ _ _ | show wpAny _ _ (binaryOp Operator.Mult _ _) _ _ _ | show wpAny _ _ (binaryOp Operator.Pow _ _) _ _ _ | show wpAny _ _ (eval (Expr.ListComp _ _ _ _) _) _ _ _ | show wpAny _ _ (exec (Stmt.Assign _ (Expr.ListComp _ _ _ _) _) _) _ _ _ | show wpAny _ _ (storeName _ _ _) _ _ _ | show wpAny _ _ (binaryOp Operator.Mod _ _) _ _ _ | show LCg.CompSrc _ _ _ _ _ _ _ _ _ _ _ _ _ _ | show wpAny _ _ (binaryOp Operator.Add (Value.str _ _) (Value.str _ _)) _ _ _))); first | (k_end; wrow_close) | walk1 | (dsimp only; walk1) | (leave1; walk_say "STEP leave1"; try dsimp only) | fail "no step")))
    try dsimp only
    refine PyProof.Rows.mod_int' (by decide) ?_
    rcases even_or kk with hz | hz
    · rw [hz]
      (repeat' (first | (k_unfold; (try dsimp only)) | ((fail_if_success (with_reducible (first | show InvEndN _ _ _ _ _ _ _ | show KswEnd _ _ _ _ _ _ _ _ _ _ _ _ | show WdEnd _ _ _ _ _ _ _ _ _ _ _ | show SrcStep _ _ _ _ _ _ _ _ _ _ _ _ _ _ | show LCg.CompEnd _ _ _ _ _ _ _ _ _ _ _ _ _ _ | show wpAny _ _ (pyIter _) _ _ _ | show wpAny _ _ (call (Value.builtin "str.join") _ _) _ _ _ | show wpAny _ _ (call (Value.ref _) _ _) _ _ _ | show wpAny _ _ (exec (Stmt.While _ _ _ _) _) _ _ _ | show wpAny _ _ (binaryOp Operator.LShift _ _) _ _ _ | show wpAny _ _ (binaryOp Operator.Mult _ _) _ _ _ | show wpAny _ _ (binaryOp Operator.Pow _ _) _ _ _ | show wpAny _ _ (eval (Expr.ListComp _ _ _ _) _) _ _ _ | show wpAny _ _ (exec (Stmt.Assign _ (Expr.ListComp _ _ _ _) _) _) _ _ _ | show wpAny _ _ (storeName _ _ _) _ _ _ | show wpAny _ _ (binaryOp Operator.Mod _ _) _ _ _ | show LCg.CompSrc _ _ _ _ _ _ _ _ _ _ _ _ _ _ | show wpAny _ _ (binaryOp Operator.Add (Value.str _ _) (Value.str _ _)) _ _ _))); first | (k_end; wrow_close) | walk1 | (dsimp only; walk1) | (leave1; walk_say "STEP leave1"; try dsimp only) | fail "no step")))
      obtain ⟨q1, q2⟩ := field_even (v := v) hnW
      rw [q1]
      try dsimp only
      walk1
      (repeat' (first | (k_unfold; (try dsimp only)) | ((fail_if_success (with_reducible (first | show InvEndN _ _ _ _ _ _ _ | show KswEnd _ _ _ _ _ _ _ _ _ _ _ _ | show WdEnd _ _ _ _ _ _ _ _ _ _ _ | show SrcStep _ _ _ _ _ _ _ _ _ _ _ _ _ _ | show LCg.CompEnd _ _ _ _ _ _ _ _ _ _ _ _ _ _ | show wpAny _ _ (pyIter _) _ _ _ | show wpAny _ _ (call (Value.builtin "str.join") _ _) _ _ _ | show wpAny _ _ (call (Value.ref _) _ _) _ _ _ | show wpAny _ _ (exec (Stmt.While _ _ _ _) _) _ _ _ | show wpAny _ _ (binaryOp Operator.LShift _ _) _ _ _ | show wpAny _ _ (binaryOp Operator.Mult _ _) _ _ _ | show wpAny _ _ (binaryOp Operator.Pow _ _) _ _ _ | show wpAny _ _ (eval (Expr.ListComp _ _ _ _) _) _ _ _ | show wpAny _ _ (exec (Stmt.Assign _ (Expr.ListComp _ _ _ _) _) _) _ _ _ | show wpAny _ _ (storeName _ _ _) _ _ _ | show wpAny _ _ (binaryOp Operator.Mod _ _) _ _ _ | show LCg.CompSrc _ _ _ _ _ _ _ _ _ _ _ _ _ _ | show wpAny _ _ (binaryOp Operator.Add (Value.str _ _) (Value.str _ _)) _ _ _))); first | (k_end; wrow_close) | walk1 | (dsimp only; walk1) | (leave1; walk_say "STEP leave1"; try dsimp only) | fail "no step")))
      try dsimp only
      refine PyProof.Rows.mul_int ?_ (mul_ok (bits_4 (by (first | lia | omega))))
      (repeat' (first | (k_unfold; (try dsimp only)) | ((fail_if_success (with_reducible (first | show InvEndN _ _ _ _ _ _ _ | show KswEnd _ _ _ _ _ _ _ _ _ _ _ _ | show WdEnd _ _ _ _ _ _ _ _ _ _ _ | show SrcStep _ _ _ _ _ _ _ _ _ _ _ _ _ _ | show LCg.CompEnd _ _ _ _ _ _ _ _ _ _ _ _ _ _ | show wpAny _ _ (pyIter _) _ _ _ | show wpAny _ _ (call (Value.builtin "str.join") _ _) _ _ _ | show wpAny _ _ (call (Value.ref _) _ _) _ _ _ | show wpAny _ _ (exec (Stmt.While _ _ _ _) _) _ _ _ | show wpAny _ _ (binaryOp Operator.LShift _ _) _ _ _ | show wpAny _ _ (binaryOp Operator.Mult _ _) _ _ _ | show wpAny _ _ (binaryOp Operator.Pow _ _) _ _ _ | show wpAny _ _ (eval (Expr.ListComp _ _ _ _) _) _ _ _ | show wpAny _ _ (exec (Stmt.Assign _ (Expr.ListComp _ _ _ _) _) _) _ _ _ | show wpAny _ _ (storeName _ _ _) _ _ _ | show wpAny _ _ (binaryOp Operator.Mod _ _) _ _ _ | show LCg.CompSrc _ _ _ _ _ _ _ _ _ _ _ _ _ _ | show wpAny _ _ (binaryOp Operator.Add (Value.str _ _) (Value.str _ _)) _ _ _))); first | (k_end; wrow_close) | walk1 | (dsimp only; walk1) | (leave1; walk_say "STEP leave1"; try dsimp only) | fail "no step")))
      try dsimp only
      refine PyProof.Rows.lshift_int (by (first | lia | omega)) (by (first | lia | omega)) ?_
      (repeat' (first | (k_unfold; (try dsimp only)) | ((fail_if_success (with_reducible (first | show InvEndN _ _ _ _ _ _ _ | show KswEnd _ _ _ _ _ _ _ _ _ _ _ _ | show WdEnd _ _ _ _ _ _ _ _ _ _ _ | show SrcStep _ _ _ _ _ _ _ _ _ _ _ _ _ _ | show LCg.CompEnd _ _ _ _ _ _ _ _ _ _ _ _ _ _ | show wpAny _ _ (pyIter _) _ _ _ | show wpAny _ _ (call (Value.builtin "str.join") _ _) _ _ _ | show wpAny _ _ (call (Value.ref _) _ _) _ _ _ | show wpAny _ _ (exec (Stmt.While _ _ _ _) _) _ _ _ | show wpAny _ _ (binaryOp Operator.LShift _ _) _ _ _ | show wpAny _ _ (binaryOp Operator.Mult _ _) _ _ _ | show wpAny _ _ (binaryOp Operator.Pow _ _) _ _ _ | show wpAny _ _ (eval (Expr.ListComp _ _ _ _) _) _ _ _ | show wpAny _ _ (exec (Stmt.Assign _ (Expr.ListComp _ _ _ _) _) _) _ _ _ | show wpAny _ _ (storeName _ _ _) _ _ _ | show wpAny _ _ (binaryOp Operator.Mod _ _) _ _ _ | show LCg.CompSrc _ _ _ _ _ _ _ _ _ _ _ _ _ _ | show wpAny _ _ (binaryOp Operator.Add (Value.str _ _) (Value.str _ _)) _ _ _))); first | (k_end; wrow_close) | walk1 | (dsimp only; walk1) | (leave1; walk_say "STEP leave1"; try dsimp only) | fail "no step")))
      try dsimp only
      refine PyProof.Rows.mod_int' (by decide) ?_
      rw [hz]
      (repeat' (first | (k_unfold; (try dsimp only)) | ((fail_if_success (with_reducible (first | show InvEndN _ _ _ _ _ _ _ | show KswEnd _ _ _ _ _ _ _ _ _ _ _ _ | show WdEnd _ _ _ _ _ _ _ _ _ _ _ | show SrcStep _ _ _ _ _ _ _ _ _ _ _ _ _ _ | show LCg.CompEnd _ _ _ _ _ _ _ _ _ _ _ _ _ _ | show wpAny _ _ (pyIter _) _ _ _ | show wpAny _ _ (call (Value.builtin "str.join") _ _) _ _ _ | show wpAny _ _ (call (Value.ref _) _ _) _ _ _ | show wpAny _ _ (exec (Stmt.While _ _ _ _) _) _ _ _ | show wpAny _ _ (binaryOp Operator.LShift _ _) _ _ _ | show wpAny _ _ (binaryOp Operator.Mult _ _) _ _ _ | show wpAny _ _ (binaryOp Operator.Pow _ _) _ _ _ | show wpAny _ _ (eval (Expr.ListComp _ _ _ _) _) _ _ _ | show wpAny _ _ (exec (Stmt.Assign _ (Expr.ListComp _ _ _ _) _) _) _ _ _ | show wpAny _ _ (storeName _ _ _) _ _ _ | show wpAny _ _ (binaryOp Operator.Mod _ _) _ _ _ | show LCg.CompSrc _ _ _ _ _ _ _ _ _ _ _ _ _ _ | show wpAny _ _ (binaryOp Operator.Add (Value.str _ _) (Value.str _ _)) _ _ _))); first | (k_end; wrow_close) | walk1 | (dsimp only; walk1) | (leave1; walk_say "STEP leave1"; try dsimp only) | fail "no step")))
      rw [q2]
      try dsimp only
      walk1
      (repeat' (first | (k_unfold; (try dsimp only)) | ((fail_if_success (with_reducible (first | show InvEndN _ _ _ _ _ _ _ | show KswEnd _ _ _ _ _ _ _ _ _ _ _ _ | show WdEnd _ _ _ _ _ _ _ _ _ _ _ | show SrcStep _ _ _ _ _ _ _ _ _ _ _ _ _ _ | show LCg.CompEnd _ _ _ _ _ _ _ _ _ _ _ _ _ _ | show wpAny _ _ (pyIter _) _ _ _ | show wpAny _ _ (call (Value.builtin "str.join") _ _) _ _ _ | show wpAny _ _ (call (Value.ref _) _ _) _ _ _ | show wpAny _ _ (exec (Stmt.While _ _ _ _) _) _ _ _ | show wpAny _ _ (binaryOp Operator.LShift _ _) _ _ _ | show wpAny _ _ (binaryOp Operator.Mult _ _) _ _ _ | show wpAny _ _ (binaryOp Operator.Pow _ _) _ _ _ | show wpAny _ _ (eval (Expr.ListComp _ _ _ _) _) _ _ _ | show wpAny _ _ (exec (Stmt.Assign _ (Expr.ListComp _ _ _ _) _) _) _ _ _ | show wpAny _ _ (storeName _ _ _) _ _ _ | show wpAny _ _ (binaryOp Operator.Mod _ _) _ _ _ | show LCg.CompSrc _ _ _ _ _ _ _ _ _ _ _ _ _ _ | show wpAny _ _ (binaryOp Operator.Add (Value.str _ _) (Value.str _ _)) _ _ _))); first | (k_end; wrow_close) | walk1 | (dsimp only; walk1) | (leave1; walk_say "STEP leave1"; try dsimp only) | fail "no step")))
      rename Fr h₀ L _ _ => F9
      rename News h₀ L _ _ => N9
      refine' kst_end (c := (_, _, _)) F9 N9 (fun _ hp => List.mem_append_left _ hp) (fun _ hp => List.mem_append_right _ hp) rfl trivial (List.forall_mem_cons.mpr ⟨rfl, List.forall_mem_cons.mpr ⟨rfl, List.forall_mem_nil _⟩⟩) ?_ ?_
      · intro z h1 h2 _
        have h3 := h2 _ (.head _)
        have h4 := h2 _ (.tail _ (.head _))
        dsimp only at h3 h4
        simp [h1, h3, h4, kstB]
      · dsimp only
        rw [List.length_append, List.length_singleton]
        exact field_step (by (first | lia | omega)) hP.1 hP.2
    · rw [hz]
      (repeat' (first | (k_unfold; (try dsimp only)) | ((fail_if_success (with_reducible (first | show InvEndN _ _ _ _ _ _ _ | show KswEnd _ _ _ _ _ _ _ _ _ _ _ _ | show WdEnd _ _ _ _ _ _ _ _ _ _ _ | show SrcStep _ _ _ _ _ _ _ _ _ _ _ _ _ _ | show LCg.CompEnd _ _ _ _ _ _ _ _ _ _ _ _ _ _ | show wpAny _ _ (pyIter _) _ _ _ | show wpAny _ _ (call (Value.builtin "str.join") _ _) _ _ _ | show wpAny _ _ (call (Value.ref _) _ _) _ _ _ | show wpAny _ _ (exec (Stmt.While _ _ _ _) _) _ _ _ | show wpAny _ _ (binaryOp Operator.LShift _ _) _ _ _ | show wpAny _ _ (binaryOp Operator.Mult _ _) _ _ _ | show wpAny _ _ (binaryOp Operator.Pow _ _) _ _ _ | show wpAny _ _ (eval (Expr.ListComp _ _ _ _) _) _ _ _ | show wpAny _ _ (exec (Stmt.Assign _ (Expr.ListComp _ _ _ _) _) _) _ _ _ | show wpAny _ _ (storeName _ _ _) _ _ _ | show wpAny _ _ (binaryOp Operator.Mod _ _) _ _ _ | show LCg.CompSrc _ _ _ _ _ _ _ _ _ _ _ _ _ _ | show wpAny _ _ (binaryOp Operator.Add (Value.str _ _) (Value.str _ _)) _ _ _))); first | (k_end; wrow_close) | walk1 | (dsimp only; walk1) | (leave1; walk_say "STEP leave1"; try dsimp only) | fail "no step")))
      try dsimp only
      refine PyProof.Rows.pow_int (by (first | lia | omega)) (by rw [show Builtin.Int.intBits 10 = 4 from by decide +kernel]; (first | lia | omega)) ?_
      (repeat' (first | (k_unfold; (try dsimp only)) | ((fail_if_success (with_reducible (first | show InvEndN _ _ _ _ _ _ _ | show KswEnd _ _ _ _ _ _ _ _ _ _ _ _ | show WdEnd _ _ _ _ _ _ _ _ _ _ _ | show SrcStep _ _ _ _ _ _ _ _ _ _ _ _ _ _ | show LCg.CompEnd _ _ _ _ _ _ _ _ _ _ _ _ _ _ | show wpAny _ _ (pyIter _) _ _ _ | show wpAny _ _ (call (Value.builtin "str.join") _ _) _ _ _ | show wpAny _ _ (call (Value.ref _) _ _) _ _ _ | show wpAny _ _ (exec (Stmt.While _ _ _ _) _) _ _ _ | show wpAny _ _ (binaryOp Operator.LShift _ _) _ _ _ | show wpAny _ _ (binaryOp Operator.Mult _ _) _ _ _ | show wpAny _ _ (binaryOp Operator.Pow _ _) _ _ _ | show wpAny _ _ (eval (Expr.ListComp _ _ _ _) _) _ _ _ | show wpAny _ _ (exec (Stmt.Assign _ (Expr.ListComp _ _ _ _) _) _) _ _ _ | show wpAny _ _ (storeName _ _ _) _ _ _ | show wpAny _ _ (binaryOp Operator.Mod _ _) _ _ _ | show LCg.CompSrc _ _ _ _ _ _ _ _ _ _ _ _ _ _ | show wpAny _ _ (binaryOp Operator.Add (Value.str _ _) (Value.str _ _)) _ _ _))); first | (k_end; wrow_close) | walk1 | (dsimp only; walk1) | (leave1; walk_say "STEP leave1"; try dsimp only) | fail "no step")))
      obtain ⟨q1, q2⟩ := field_odd (v := v) hnW
      rw [q1]
      try dsimp only
      walk1
      (repeat' (first | (k_unfold; (try dsimp only)) | ((fail_if_success (with_reducible (first | show InvEndN _ _ _ _ _ _ _ | show KswEnd _ _ _ _ _ _ _ _ _ _ _ _ | show WdEnd _ _ _ _ _ _ _ _ _ _ _ | show SrcStep _ _ _ _ _ _ _ _ _ _ _ _ _ _ | show LCg.CompEnd _ _ _ _ _ _ _ _ _ _ _ _ _ _ | show wpAny _ _ (pyIter _) _ _ _ | show wpAny _ _ (call (Value.builtin "str.join") _ _) _ _ _ | show wpAny _ _ (call (Value.ref _) _ _) _ _ _ | show wpAny _ _ (exec (Stmt.While _ _ _ _) _) _ _ _ | show wpAny _ _ (binaryOp Operator.LShift _ _) _ _ _ | show wpAny _ _ (binaryOp Operator.Mult _ _) _ _ _ | show wpAny _ _ (binaryOp Operator.Pow _ _) _ _ _ | show wpAny _ _ (eval (Expr.ListComp _ _ _ _) _) _ _ _ | show wpAny _ _ (exec (Stmt.Assign _ (Expr.ListComp _ _ _ _) _) _) _ _ _ | show wpAny _ _ (storeName _ _ _) _ _ _ | show wpAny _ _ (binaryOp Operator.Mod _ _) _ _ _ | show LCg.CompSrc _ _ _ _ _ _ _ _ _ _ _ _ _ _ | show wpAny _ _ (binaryOp Operator.Add (Value.str _ _) (Value.str _ _)) _ _ _))); first | (k_end; wrow_close) | walk1 | (dsimp only; walk1) | (leave1; walk_say "STEP leave1"; try dsimp only) | fail "no step")))
      try dsimp only
      refine PyProof.Rows.mul_int ?_ (mul_ok (bits_4 (by (first | lia | omega))))
      (repeat' (first | (k_unfold; (try dsimp only)) | ((fail_if_success (with_reducible (first | show InvEndN _ _ _ _ _ _ _ | show KswEnd _ _ _ _ _ _ _ _ _ _ _ _ | show WdEnd _ _ _ _ _ _ _ _ _ _ _ | show SrcStep _ _ _ _ _ _ _ _ _ _ _ _ _ _ | show LCg.CompEnd _ _ _ _ _ _ _ _ _ _ _ _ _ _ | show wpAny _ _ (pyIter _) _ _ _ | show wpAny _ _ (call (Value.builtin "str.join") _ _) _ _ _ | show wpAny _ _ (call (Value.ref _) _ _) _ _ _ | show wpAny _ _ (exec (Stmt.While _ _ _ _) _) _ _ _ | show wpAny _ _ (binaryOp Operator.LShift _ _) _ _ _ | show wpAny _ _ (binaryOp Operator.Mult _ _) _ _ _ | show wpAny _ _ (binaryOp Operator.Pow _ _) _ _ _ | show wpAny _ _ (eval (Expr.ListComp _ _ _ _) _) _ _ _ | show wpAny _ _ (exec (Stmt.Assign _ (Expr.ListComp _ _ _ _) _) _) _ _ _ | show wpAny _ _ (storeName _ _ _) _ _ _ | show wpAny _ _ (binaryOp Operator.Mod _ _) _ _ _ | show LCg.CompSrc _ _ _ _ _ _ _ _ _ _ _ _ _ _ | show wpAny _ _ (binaryOp Operator.Add (Value.str _ _) (Value.str _ _)) _ _ _))); first | (k_end; wrow_close) | walk1 | (dsimp only; walk1) | (leave1; walk_say "STEP leave1"; try dsimp only) | fail "no step")))
      try dsimp only
      refine PyProof.Rows.lshift_int (by (first | lia | omega)) (by (first | lia | omega)) ?_
      (repeat' (first | (k_unfold; (try dsimp only)) | ((fail_if_success (with_reducible (first | show InvEndN _ _ _ _ _ _ _ | show KswEnd _ _ _ _ _ _ _ _ _ _ _ _ | show WdEnd _ _ _ _ _ _ _ _ _ _ _ | show SrcStep _ _ _ _ _ _ _ _ _ _ _ _ _ _ | show LCg.CompEnd _ _ _ _ _ _ _ _ _ _ _ _ _ _ | show wpAny _ _ (pyIter _) _ _ _ | show wpAny _ _ (call (Value.builtin "str.join") _ _) _ _ _ | show wpAny _ _ (call (Value.ref _) _ _) _ _ _ | show wpAny _ _ (exec (Stmt.While _ _ _ _) _) _ _ _ | show wpAny _ _ (binaryOp Operator.LShift _ _) _ _ _ | show wpAny _ _ (binaryOp Operator.Mult _ _) _ _ _ | show wpAny _ _ (binaryOp Operator.Pow _ _) _ _ _ | show wpAny _ _ (eval (Expr.ListComp _ _ _ _) _) _ _ _ | show wpAny _ _ (exec (Stmt.Assign _ (Expr.ListComp _ _ _ _) _) _) _ _ _ | show wpAny _ _ (storeName _ _ _) _ _ _ | show wpAny _ _ (binaryOp Operator.Mod _ _) _ _ _ | show LCg.CompSrc _ _ _ _ _ _ _ _ _ _ _ _ _ _ | show wpAny _ _ (binaryOp Operator.Add (Value.str _ _) (Value.str _ _)) _ _ _))); first | (k_end; wrow_close) | walk1 | (dsimp only; walk1) | (leave1; walk_say "STEP leave1"; try dsimp only) | fail "no step")))
      try dsimp only
      refine PyProof.Rows.mod_int' (by decide) ?_
      rw [hz]
      (repeat' (first | (k_unfold; (try dsimp only)) | ((fail_if_success (with_reducible (first | show InvEndN _ _ _ _ _ _ _ | show KswEnd _ _ _ _ _ _ _ _ _ _ _ _ | show WdEnd _ _ _ _ _ _ _ _ _ _ _ | show SrcStep _ _ _ _ _ _ _ _ _ _ _ _ _ _ | show LCg.CompEnd _ _ _ _ _ _ _ _ _ _ _ _ _ _ | show wpAny _ _ (pyIter _) _ _ _ | show wpAny _ _ (call (Value.builtin "str.join") _ _) _ _ _ | show wpAny _ _ (call (Value.ref _) _ _) _ _ _ | show wpAny _ _ (exec (Stmt.While _ _ _ _) _) _ _ _ | show wpAny _ _ (binaryOp Operator.LShift _ _) _ _ _ | show wpAny _ _ (binaryOp Operator.Mult _ _) _ _ _ | show wpAny _ _ (binaryOp Operator.Pow _ _) _ _ _ | show wpAny _ _ (eval (Expr.ListComp _ _ _ _) _) _ _ _ | show wpAny _ _ (exec (Stmt.Assign _ (Expr.ListComp _ _ _ _) _) _) _ _ _ | show wpAny _ _ (storeName _ _ _) _ _ _ | show wpAny _ _ (binaryOp Operator.Mod _ _) _ _ _ | show LCg.CompSrc _ _ _ _ _ _ _ _ _ _ _ _ _ _ | show wpAny _ _ (binaryOp Operator.Add (Value.str _ _) (Value.str _ _)) _ _ _))); first | (k_end; wrow_close) | walk1 | (dsimp only; walk1) | (leave1; walk_say "STEP leave1"; try dsimp only) | fail "no step")))
      rw [q2]
      try dsimp only
      walk1
      (repeat' (first | (k_unfold; (try dsimp only)) | ((fail_if_success (with_reducible (first | show InvEndN _ _ _ _ _ _ _ | show KswEnd _ _ _ _ _ _ _ _ _ _ _ _ | show WdEnd _ _ _ _ _ _ _ _ _ _ _ | show SrcStep _ _ _ _ _ _ _ _ _ _ _ _ _ _ | show LCg.CompEnd _ _ _ _ _ _ _ _ _ _ _ _ _ _ | show wpAny _ _ (pyIter _) _ _ _ | show wpAny _ _ (call (Value.builtin "str.join") _ _) _ _ _ | show wpAny _ _ (call (Value.ref _) _ _) _ _ _ | show wpAny _ _ (exec (Stmt.While _ _ _ _) _) _ _ _ | show wpAny _ _ (binaryOp Operator.LShift _ _) _ _ _ | show wpAny _ _ (binaryOp Operator.Mult _ _) _ _ _ | show wpAny _ _ (binaryOp Operator.Pow _ _) _ _ _ | show wpAny _ _ (eval (Expr.ListComp _ _ _ _) _) _ _ _ | show wpAny _ _ (exec (Stmt.Assign _ (Expr.ListComp _ _ _ _) _) _) _ _ _ | show wpAny _ _ (storeName _ _ _) _ _ _ | show wpAny _ _ (binaryOp Operator.Mod _ _) _ _ _ | show LCg.CompSrc _ _ _ _ _ _ _ _ _ _ _ _ _ _ | show wpAny _ _ (binaryOp Operator.Add (Value.str _ _) (Value.str _ _)) _ _ _))); first | (k_end; wrow_close) | walk1 | (dsimp only; walk1) | (leave1; walk_say "STEP leave1"; try dsimp only) | fail "no step")))
      rename Fr h₀ L _ _ => F9
      rename News h₀ L _ _ => N9
      refine' kst_end (c := (_, _, _)) F9 N9 (fun _ hp => List.mem_append_left _ hp) (fun _ hp => List.mem_append_right _ hp) rfl trivial (List.forall_mem_cons.mpr ⟨rfl, List.forall_mem_cons.mpr ⟨rfl, List.forall_mem_nil _⟩⟩) ?_ ?_
      · intro z h1 h2 _
        have h3 := h2 _ (.head _)
        have h4 := h2 _ (.tail _ (.head _))
        dsimp only at h3 h4
        simp [h1, h3, h4, kstB]
      · dsimp only
        rw [List.length_append, List.length_singleton]
        exact field_step (by (first | lia | omega)) hP.1 hP.2
  · rintro ⟨v, tv, tr⟩ u h tk hf hP F1 N1
    dsimp only at hP F1 N1 ⊢
    (repeat' (first | (k_unfold; (try dsimp only)) | ((fail_if_success (with_reducible (first | show InvEndN _ _ _ _ _ _ _ | show KswEnd _ _ _ _ _ _ _ _ _ _ _ _ | show WdEnd _ _ _ _ _ _ _ _ _ _ _ | show SrcStep _ _ _ _ _ _ _ _ _ _ _ _ _ _ | show LCg.CompEnd _ _ _ _ _ _ _ _ _ _ _ _ _ _ | show wpAny _ _ (pyIter _) _ _ _ | show wpAny _ _ (call (Value.builtin "str.join") _ _) _ _ _ | show wpAny _ _ (call (Value.ref _) _ _) _ _ _ | show wpAny _ _ (exec (Stmt.While _ _ _ _) _) _ _ _ | show wpAny _ _ (binaryOp Operator.LShift _ _) _ _ _ | show wpAny _ _ (binaryOp Operator.Mult _ _) _ _ _ | show wpAny _ _ (binaryOp Operator.Pow _ _) _ _ _ | show wpAny _ _ (eval (Expr.ListComp _ _ _ _) _) _ _ _ | show wpAny _ _ (exec (Stmt.Assign _ (Expr.ListComp _ _ _ _) _) _) _ _ _ | show wpAny _ _ (storeName _ _ _) _ _ _ | show wpAny _ _ (binaryOp Operator.Mod _ _) _ _ _ | show LCg.CompSrc _ _ _ _ _ _ _ _ _ _ _ _ _ _ | show wpAny _ _ (binaryOp Operator.Add (Value.str _ _) (Value.str _ _)) _ _ _))); first | (k_end; wrow_close) | walk1 | (dsimp only; walk1) | (leave1; walk_say "STEP leave1"; try dsimp only) | fail "no step")))
    rw [rangeKs_length] at hP
    refine' law4 hdef' hk4 hn2 hnr2 (M := W * (kd + 1)) hT.1 hT.2 hP.1 hP.2 C B (frAt F1 ?fr) X N1 T hd hu hret
    case fr => repeat' (first | exact List.forall_mem_nil _ | refine List.forall_mem_cons.mpr ⟨rfl, ?_⟩)

theorem reset_D2 : True := by
  w_top off
  exact trivial
theorem modN (d : Int) : ∃ n : Nat, d.fmod (1 * 2 ^ Int.toNat 600) = (n : Int) ∧ n < 2 ^ 600 := by
  have e : (1 * 2 ^ Int.toNat 600 : Int) = ((2 ^ 600 : Nat) : Int) := by push_cast; rw [Int.one_mul]
  rw [e]
  have hp : (0 : Int) < ((2 ^ 600 : Nat) : Int) := by exact_mod_cast Nat.two_pow_pos 600
  have h1 := Int.fmod_nonneg_of_pos d hp
  have h2 := Int.fmod_lt_of_pos d hp
  exact ⟨(d.fmod ((2 ^ 600 : Nat) : Int)).toNat, (Int.toNat_of_nonneg h1).symm, by exact_mod_cast (by rw [Int.toNat_of_nonneg h1]; exact h2 : (((d.fmod ((2 ^ 600 : Nat) : Int)).toNat : Nat) : Int) < ((2 ^ 600 : Nat) : Int))⟩
theorem ne600 : (1 * 2 ^ Int.toNat 600 : Int) ≠ 0 := by rw [Int.one_mul]; exact Int.ne_of_gt (Int.pow_pos (by decide))
theorem shiftN (d : Int) : 0 ≤ d.fmod 600 ∧ (Builtin.Int.intBits 1 : Int) + d.fmod 600 ≤ 2 ^ 27 := by
  have hb1 := Int.fmod_nonneg_of_pos d (b := 600) (by decide)
  have hb2 := Int.fmod_lt_of_pos d (b := 600) (by decide)
  exact ⟨hb1, by rw [show Builtin.Int.intBits 1 = 1 from by decide +kernel]; (first | lia | omega)⟩
theorem widthN (d : Int) : ∃ W : Nat, 181 + d.fmod 100 = (W : Int) ∧ 181 ≤ W ∧ W ≤ 280 := by
  have h1 := Int.fmod_nonneg_of_pos d (b := 100) (by decide)
  have h2 := Int.fmod_lt_of_pos d (b := 100) (by decide)
  exact ⟨(181 + d.fmod 100).toNat, by (first | lia | omega), by (first | lia | omega), by (first | lia | omega)⟩
theorem nines_int {W k : Nat} (h : W ≤ k) : Builtin.bitAnd (3 * ((rep 3 k : Nat) : Int)) (1 * 2 ^ (4 * (W : Int)).toNat - 1) = ((rep 9 W : Nat) : Int) := by
  have e1 : (3 * ((rep 3 k : Nat) : Int)) = ((3 * rep 3 k : Nat) : Int) := by push_cast; rfl
  have e2 : (4 * (W : Int)).toNat = 4 * W := by (first | lia | omega)
  have hp := Nat.two_pow_pos (4 * W)
  have e3 : (1 * 2 ^ (4 * (W : Int)).toNat - 1 : Int) = ((2 ^ (4 * W) - 1 : Nat) : Int) := by
    rw [e2, Int.one_mul, Int.natCast_sub hp]; push_cast; rfl
  rw [e1, e3, bitAnd_nat, nines_is h]
set_option maxHeartbeats 8000000 in
theorem law2 {params : Arguments} {body : List Stmt} {scope : Scope} (hdef : lawOf = (params, body, scope)) {D : Addr} {d0 d1 d2 d3 d4 d5 : Int} {u0 u1 u2 u3 u4 u5 : Tok} 
    (C : CodeHd h₀ 28 24)
    (B : Below A₀ h₀ [] h₀) (F : Fr h₀ L s.heap (kstB m [(PySem.Str.ofString "draws", .ref D)])) (X : Frag.In (Mine.Head.hd.heap_39 w.params) h₀)
    (N : News h₀ L s.heap [(D, LCg.lst [.int d0 u0, .int d1 u1, .int d2 u2, .int d3 u3, .int d4 u4, .int d5 u5]), (24, tabObj #[])]) (T : Top p loose mean mg mb h₀) (hd : dp + 20 < recursionLimit) (hu : un + 100 < cLine) {Q : Flow → Shared → Prop}
    (hret : ∀ h' tk' dr' m' c', Fr h₀ L h' m' → News h₀ L h' [(24, tabObj #[rawInt 46, rawInt 4, .ref c'])] → Q (.ret (.bool true)) { s with heap := h', toks := tk', drawn := dr' }) :
    wpC (model Challenge.rw_lo0013_01.row.prog w) (ktrTop dp un gd (PySem.Str.ofString "law") scope L a ccd [(PySem.Str.ofString "cells", L + 1)] []) (execs (body.drop 2) (envX (PySem.Str.ofString "law") scope L a ccd [(PySem.Str.ofString "cells", L + 1)])) Q (fun _ _ => False) s := by
  have e : lawOf = (_, [_, _, _, _, _, _, _, _, _, _, _, _, _, _, _, _, _, _, _], _) := rfl
  rw [e] at hdef
  have hdef' := hdef
  cases hdef
  dsimp only [List.drop]
  refine wpC_execs_consA ?_
  (repeat' (first | (k_unfold; (try dsimp only)) | ((fail_if_success (with_reducible (first | show InvEndN _ _ _ _ _ _ _ | show KswEnd _ _ _ _ _ _ _ _ _ _ _ _ | show WdEnd _ _ _ _ _ _ _ _ _ _ _ | show SrcStep _ _ _ _ _ _ _ _ _ _ _ _ _ _ | show LCg.CompEnd _ _ _ _ _ _ _ _ _ _ _ _ _ _ | show wpAny _ _ (pyIter _) _ _ _ | show wpAny _ _ (call (Value.builtin "str.join") _ _) _ _ _ | show wpAny _ _ (call (Value.ref _) _ _) _ _ _ | show wpAny _ _ (exec (Stmt.While _ _ _ _) _) _ _ _ | show wpAny _ _ (binaryOp Operator.LShift _ _) _ _ _ | show wpAny _ _ (binaryOp Operator.Mult _ _) _ _ _ | show wpAny _ _ (binaryOp Operator.Pow _ _) _ _ _ | show wpAny _ _ (eval (Expr.ListComp _ _ _ _) _) _ _ _ | show wpAny _ _ (exec (Stmt.Assign _ (Expr.ListComp _ _ _ _) _) _) _ _ _ | show wpAny _ _ (storeName _ _ _) _ _ _ | show wpAny _ _ (binaryOp Operator.Mod _ _) _ _ _ | show LCg.CompSrc _ _ _ _ _ _ _ _ _ _ _ _ _ _ | show wpAny _ _ (binaryOp Operator.Add (Value.str _ _) (Value.str _ _)) _ _ _))); first | (k_end; wrow_close) | walk1 | (dsimp only; walk1) | (leave1; walk_say "STEP leave1"; try dsimp only) | fail "no step")))
  refine c_masks (by assumption) (by assumption) (by assumption) (by assumption) (by assumption) rfl (by ktr_room) (by ktr_units) ?_
  intro k dT v1 v2 h1 tk1 hk F1 N1 l1
  (repeat' (first | (k_unfold; (try dsimp only)) | ((fail_if_success (with_reducible (first | show InvEndN _ _ _ _ _ _ _ | show KswEnd _ _ _ _ _ _ _ _ _ _ _ _ | show WdEnd _ _ _ _ _ _ _ _ _ _ _ | show SrcStep _ _ _ _ _ _ _ _ _ _ _ _ _ _ | show LCg.CompEnd _ _ _ _ _ _ _ _ _ _ _ _ _ _ | show wpAny _ _ (pyIter _) _ _ _ | show wpAny _ _ (call (Value.builtin "str.join") _ _) _ _ _ | show wpAny _ _ (call (Value.ref _) _ _) _ _ _ | show wpAny _ _ (exec (Stmt.While _ _ _ _) _) _ _ _ | show wpAny _ _ (binaryOp Operator.LShift _ _) _ _ _ | show wpAny _ _ (binaryOp Operator.Mult _ _) _ _ _ | show wpAny _ _ (binaryOp Operator.Pow _ _) _ _ _ | show wpAny _ _ (eval (Expr.ListComp _ _ _ _) _) _ _ _ | show wpAny _ _ (exec (Stmt.Assign _ (Expr.ListComp _ _ _ _) _) _) _ _ _ | show wpAny _ _ (storeName _ _ _) _ _ _ | show wpAny _ _ (binaryOp Operator.Mod _ _) _ _ _ | show LCg.CompSrc _ _ _ _ _ _ _ _ _ _ _ _ _ _ | show wpAny _ _ (binaryOp Operator.Add (Value.str _ _) (Value.str _ _)) _ _ _))); first | (k_end; wrow_close) | walk1 | (dsimp only; walk1) | (leave1; walk_say "STEP leave1"; try dsimp only) | fail "no step")))
  walk1
  (repeat' (first | (k_unfold; (try dsimp only)) | ((fail_if_success (with_reducible (first | show InvEndN _ _ _ _ _ _ _ | show KswEnd _ _ _ _ _ _ _ _ _ _ _ _ | show WdEnd _ _ _ _ _ _ _ _ _ _ _ | show SrcStep _ _ _ _ _ _ _ _ _ _ _ _ _ _ | show LCg.CompEnd _ _ _ _ _ _ _ _ _ _ _ _ _ _ | show wpAny _ _ (pyIter _) _ _ _ | show wpAny _ _ (call (Value.builtin "str.join") _ _) _ _ _ | show wpAny _ _ (call (Value.ref _) _ _) _ _ _ | show wpAny _ _ (exec (Stmt.While _ _ _ _) _) _ _ _ | show wpAny _ _ (binaryOp Operator.LShift _ _) _ _ _ | show wpAny _ _ (binaryOp Operator.Mult _ _) _ _ _ | show wpAny _ _ (binaryOp Operator.Pow _ _) _ _ _ | show wpAny _ _ (eval (Expr.ListComp _ _ _ _) _) _ _ _ | show wpAny _ _ (exec (Stmt.Assign _ (Expr.ListComp _ _ _ _) _) _) _ _ _ | show wpAny _ _ (storeName _ _ _) _ _ _ | show wpAny _ _ (binaryOp Operator.Mod _ _) _ _ _ | show LCg.CompSrc _ _ _ _ _ _ _ _ _ _ _ _ _ _ | show wpAny _ _ (binaryOp Operator.Add (Value.str _ _) (Value.str _ _)) _ _ _))); first | (k_end; wrow_close) | walk1 | (dsimp only; walk1) | (leave1; walk_say "STEP leave1"; try dsimp only) | fail "no step")))
  walk1
  (repeat' (first | (k_unfold; (try dsimp only)) | ((fail_if_success (with_reducible (first | show InvEndN _ _ _ _ _ _ _ | show KswEnd _ _ _ _ _ _ _ _ _ _ _ _ | show WdEnd _ _ _ _ _ _ _ _ _ _ _ | show SrcStep _ _ _ _ _ _ _ _ _ _ _ _ _ _ | show LCg.CompEnd _ _ _ _ _ _ _ _ _ _ _ _ _ _ | show wpAny _ _ (pyIter _) _ _ _ | show wpAny _ _ (call (Value.builtin "str.join") _ _) _ _ _ | show wpAny _ _ (call (Value.ref _) _ _) _ _ _ | show wpAny _ _ (exec (Stmt.While _ _ _ _) _) _ _ _ | show wpAny _ _ (binaryOp Operator.LShift _ _) _ _ _ | show wpAny _ _ (binaryOp Operator.Mult _ _) _ _ _ | show wpAny _ _ (binaryOp Operator.Pow _ _) _ _ _ | show wpAny _ _ (eval (Expr.ListComp _ _ _ _) _) _ _ _ | show wpAny _ _ (exec (Stmt.Assign _ (Expr.ListComp _ _ _ _) _) _) _ _ _ | show wpAny _ _ (storeName _ _ _) _ _ _ | show wpAny _ _ (binaryOp Operator.Mod _ _) _ _ _ | show LCg.CompSrc _ _ _ _ _ _ _ _ _ _ _ _ _ _ | show wpAny _ _ (binaryOp Operator.Add (Value.str _ _) (Value.str _ _)) _ _ _))); first | (k_end; wrow_close) | walk1 | (dsimp only; walk1) | (leave1; walk_say "STEP leave1"; try dsimp only) | fail "no step")))
  refine wpC_execs_consA ?_
  (repeat' (first | (k_unfold; (try dsimp only)) | ((fail_if_success (with_reducible (first | show InvEndN _ _ _ _ _ _ _ | show KswEnd _ _ _ _ _ _ _ _ _ _ _ _ | show WdEnd _ _ _ _ _ _ _ _ _ _ _ | show SrcStep _ _ _ _ _ _ _ _ _ _ _ _ _ _ | show LCg.CompEnd _ _ _ _ _ _ _ _ _ _ _ _ _ _ | show wpAny _ _ (pyIter _) _ _ _ | show wpAny _ _ (call (Value.builtin "str.join") _ _) _ _ _ | show wpAny _ _ (call (Value.ref _) _ _) _ _ _ | show wpAny _ _ (exec (Stmt.While _ _ _ _) _) _ _ _ | show wpAny _ _ (binaryOp Operator.LShift _ _) _ _ _ | show wpAny _ _ (binaryOp Operator.Mult _ _) _ _ _ | show wpAny _ _ (binaryOp Operator.Pow _ _) _ _ _ | show wpAny _ _ (eval (Expr.ListComp _ _ _ _) _) _ _ _ | show wpAny _ _ (exec (Stmt.Assign _ (Expr.ListComp _ _ _ _) _) _) _ _ _ | show wpAny _ _ (storeName _ _ _) _ _ _ | show wpAny _ _ (binaryOp Operator.Mod _ _) _ _ _ | show LCg.CompSrc _ _ _ _ _ _ _ _ _ _ _ _ _ _ | show wpAny _ _ (binaryOp Operator.Add (Value.str _ _) (Value.str _ _)) _ _ _))); first | (k_end; wrow_close) | walk1 | (dsimp only; walk1) | (leave1; walk_say "STEP leave1"; try dsimp only) | fail "no step")))
  try dsimp only
  refine PyProof.Rows.lshift_int (by decide) (by decide) ?_
  (repeat' (first | (k_unfold; (try dsimp only)) | ((fail_if_success (with_reducible (first | show InvEndN _ _ _ _ _ _ _ | show KswEnd _ _ _ _ _ _ _ _ _ _ _ _ | show WdEnd _ _ _ _ _ _ _ _ _ _ _ | show SrcStep _ _ _ _ _ _ _ _ _ _ _ _ _ _ | show LCg.CompEnd _ _ _ _ _ _ _ _ _ _ _ _ _ _ | show wpAny _ _ (pyIter _) _ _ _ | show wpAny _ _ (call (Value.builtin "str.join") _ _) _ _ _ | show wpAny _ _ (call (Value.ref _) _ _) _ _ _ | show wpAny _ _ (exec (Stmt.While _ _ _ _) _) _ _ _ | show wpAny _ _ (binaryOp Operator.LShift _ _) _ _ _ | show wpAny _ _ (binaryOp Operator.Mult _ _) _ _ _ | show wpAny _ _ (binaryOp Operator.Pow _ _) _ _ _ | show wpAny _ _ (eval (Expr.ListComp _ _ _ _) _) _ _ _ | show wpAny _ _ (exec (Stmt.Assign _ (Expr.ListComp _ _ _ _) _) _) _ _ _ | show wpAny _ _ (storeName _ _ _) _ _ _ | show wpAny _ _ (binaryOp Operator.Mod _ _) _ _ _ | show LCg.CompSrc _ _ _ _ _ _ _ _ _ _ _ _ _ _ | show wpAny _ _ (binaryOp Operator.Add (Value.str _ _) (Value.str _ _)) _ _ _))); first | (k_end; wrow_close) | walk1 | (dsimp only; walk1) | (leave1; walk_say "STEP leave1"; try dsimp only) | fail "no step")))
  try dsimp only
  refine PyProof.Rows.mod_int' ne600 ?_
  rw [show [d0, d1, d2, d3, d4, d5].getD (Int.toNat 0) 0 = d0 from rfl]
  obtain ⟨n, hn, hn2⟩ := modN d0
  rw [hn]
  clear hn
  (repeat' (first | (k_unfold; (try dsimp only)) | ((fail_if_success (with_reducible (first | show InvEndN _ _ _ _ _ _ _ | show KswEnd _ _ _ _ _ _ _ _ _ _ _ _ | show WdEnd _ _ _ _ _ _ _ _ _ _ _ | show SrcStep _ _ _ _ _ _ _ _ _ _ _ _ _ _ | show LCg.CompEnd _ _ _ _ _ _ _ _ _ _ _ _ _ _ | show wpAny _ _ (pyIter _) _ _ _ | show wpAny _ _ (call (Value.builtin "str.join") _ _) _ _ _ | show wpAny _ _ (call (Value.ref _) _ _) _ _ _ | show wpAny _ _ (exec (Stmt.While _ _ _ _) _) _ _ _ | show wpAny _ _ (binaryOp Operator.LShift _ _) _ _ _ | show wpAny _ _ (binaryOp Operator.Mult _ _) _ _ _ | show wpAny _ _ (binaryOp Operator.Pow _ _) _ _ _ | show wpAny _ _ (eval (Expr.ListComp _ _ _ _) _) _ _ _ | show wpAny _ _ (exec (Stmt.Assign _ (Expr.ListComp _ _ _ _) _) _) _ _ _ | show wpAny _ _ (storeName _ _ _) _ _ _ | show wpAny _ _ (binaryOp Operator.Mod _ _) _ _ _ | show LCg.CompSrc _ _ _ _ _ _ _ _ _ _ _ _ _ _ | show wpAny _ _ (binaryOp Operator.Add (Value.str _ _) (Value.str _ _)) _ _ _))); first | (k_end; wrow_close) | walk1 | (dsimp only; walk1) | (leave1; walk_say "STEP leave1"; try dsimp only) | fail "no step")))
  try dsimp only
  walk1
  (repeat' (first | (k_unfold; (try dsimp only)) | ((fail_if_success (with_reducible (first | show InvEndN _ _ _ _ _ _ _ | show KswEnd _ _ _ _ _ _ _ _ _ _ _ _ | show WdEnd _ _ _ _ _ _ _ _ _ _ _ | show SrcStep _ _ _ _ _ _ _ _ _ _ _ _ _ _ | show LCg.CompEnd _ _ _ _ _ _ _ _ _ _ _ _ _ _ | show wpAny _ _ (pyIter _) _ _ _ | show wpAny _ _ (call (Value.builtin "str.join") _ _) _ _ _ | show wpAny _ _ (call (Value.ref _) _ _) _ _ _ | show wpAny _ _ (exec (Stmt.While _ _ _ _) _) _ _ _ | show wpAny _ _ (binaryOp Operator.LShift _ _) _ _ _ | show wpAny _ _ (binaryOp Operator.Mult _ _) _ _ _ | show wpAny _ _ (binaryOp Operator.Pow _ _) _ _ _ | show wpAny _ _ (eval (Expr.ListComp _ _ _ _) _) _ _ _ | show wpAny _ _ (exec (Stmt.Assign _ (Expr.ListComp _ _ _ _) _) _) _ _ _ | show wpAny _ _ (storeName _ _ _) _ _ _ | show wpAny _ _ (binaryOp Operator.Mod _ _) _ _ _ | show LCg.CompSrc _ _ _ _ _ _ _ _ _ _ _ _ _ _ | show wpAny _ _ (binaryOp Operator.Add (Value.str _ _) (Value.str _ _)) _ _ _))); first | (k_end; wrow_close) | walk1 | (dsimp only; walk1) | (leave1; walk_say "STEP leave1"; try dsimp only) | fail "no step")))
  try dsimp only
  refine wpC_execs_consA ?_
  (repeat' (first | (k_unfold; (try dsimp only)) | ((fail_if_success (with_reducible (first | show InvEndN _ _ _ _ _ _ _ | show KswEnd _ _ _ _ _ _ _ _ _ _ _ _ | show WdEnd _ _ _ _ _ _ _ _ _ _ _ | show SrcStep _ _ _ _ _ _ _ _ _ _ _ _ _ _ | show LCg.CompEnd _ _ _ _ _ _ _ _ _ _ _ _ _ _ | show wpAny _ _ (pyIter _) _ _ _ | show wpAny _ _ (call (Value.builtin "str.join") _ _) _ _ _ | show wpAny _ _ (call (Value.ref _) _ _) _ _ _ | show wpAny _ _ (exec (Stmt.While _ _ _ _) _) _ _ _ | show wpAny _ _ (binaryOp Operator.LShift _ _) _ _ _ | show wpAny _ _ (binaryOp Operator.Mult _ _) _ _ _ | show wpAny _ _ (binaryOp Operator.Pow _ _) _ _ _ | show wpAny _ _ (eval (Expr.ListComp _ _ _ _) _) _ _ _ | show wpAny _ _ (exec (Stmt.Assign _ (Expr.ListComp _ _ _ _) _) _) _ _ _ | show wpAny _ _ (storeName _ _ _) _ _ _ | show wpAny _ _ (binaryOp Operator.Mod _ _) _ _ _ | show LCg.CompSrc _ _ _ _ _ _ _ _ _ _ _ _ _ _ | show wpAny _ _ (binaryOp Operator.Add (Value.str _ _) (Value.str _ _)) _ _ _))); first | (k_end; wrow_close) | walk1 | (dsimp only; walk1) | (leave1; walk_say "STEP leave1"; try dsimp only) | fail "no step")))
  refine c_packed (k := k) (by (first | lia | omega)) (small_pow hk hn2) (bits600 hn2) (by assumption) (by assumption) (by assumption) (by assumption) (by assumption) rfl (by ktr_room) (by ktr_units) ?_
  intro t2 h2 tk2 F2 N2
  (repeat' (first | (k_unfold; (try dsimp only)) | ((fail_if_success (with_reducible (first | show InvEndN _ _ _ _ _ _ _ | show KswEnd _ _ _ _ _ _ _ _ _ _ _ _ | show WdEnd _ _ _ _ _ _ _ _ _ _ _ | show SrcStep _ _ _ _ _ _ _ _ _ _ _ _ _ _ | show LCg.CompEnd _ _ _ _ _ _ _ _ _ _ _ _ _ _ | show wpAny _ _ (pyIter _) _ _ _ | show wpAny _ _ (call (Value.builtin "str.join") _ _) _ _ _ | show wpAny _ _ (call (Value.ref _) _ _) _ _ _ | show wpAny _ _ (exec (Stmt.While _ _ _ _) _) _ _ _ | show wpAny _ _ (binaryOp Operator.LShift _ _) _ _ _ | show wpAny _ _ (binaryOp Operator.Mult _ _) _ _ _ | show wpAny _ _ (binaryOp Operator.Pow _ _) _ _ _ | show wpAny _ _ (eval (Expr.ListComp _ _ _ _) _) _ _ _ | show wpAny _ _ (exec (Stmt.Assign _ (Expr.ListComp _ _ _ _) _) _) _ _ _ | show wpAny _ _ (storeName _ _ _) _ _ _ | show wpAny _ _ (binaryOp Operator.Mod _ _) _ _ _ | show LCg.CompSrc _ _ _ _ _ _ _ _ _ _ _ _ _ _ | show wpAny _ _ (binaryOp Operator.Add (Value.str _ _) (Value.str _ _)) _ _ _))); first | (k_end; wrow_close) | walk1 | (dsimp only; walk1) | (leave1; walk_say "STEP leave1"; try dsimp only) | fail "no step")))
  try dsimp only
  walk1
  (repeat' (first | (k_unfold; (try dsimp only)) | ((fail_if_success (with_reducible (first | show InvEndN _ _ _ _ _ _ _ | show KswEnd _ _ _ _ _ _ _ _ _ _ _ _ | show WdEnd _ _ _ _ _ _ _ _ _ _ _ | show SrcStep _ _ _ _ _ _ _ _ _ _ _ _ _ _ | show LCg.CompEnd _ _ _ _ _ _ _ _ _ _ _ _ _ _ | show wpAny _ _ (pyIter _) _ _ _ | show wpAny _ _ (call (Value.builtin "str.join") _ _) _ _ _ | show wpAny _ _ (call (Value.ref _) _ _) _ _ _ | show wpAny _ _ (exec (Stmt.While _ _ _ _) _) _ _ _ | show wpAny _ _ (binaryOp Operator.LShift _ _) _ _ _ | show wpAny _ _ (binaryOp Operator.Mult _ _) _ _ _ | show wpAny _ _ (binaryOp Operator.Pow _ _) _ _ _ | show wpAny _ _ (eval (Expr.ListComp _ _ _ _) _) _ _ _ | show wpAny _ _ (exec (Stmt.Assign _ (Expr.ListComp _ _ _ _) _) _) _ _ _ | show wpAny _ _ (storeName _ _ _) _ _ _ | show wpAny _ _ (binaryOp Operator.Mod _ _) _ _ _ | show LCg.CompSrc _ _ _ _ _ _ _ _ _ _ _ _ _ _ | show wpAny _ _ (binaryOp Operator.Add (Value.str _ _) (Value.str _ _)) _ _ _))); first | (k_end; wrow_close) | walk1 | (dsimp only; walk1) | (leave1; walk_say "STEP leave1"; try dsimp only) | fail "no step")))
  try dsimp only
  refine wpC_execs_consA ?_
  (repeat' (first | (k_unfold; (try dsimp only)) | ((fail_if_success (with_reducible (first | show InvEndN _ _ _ _ _ _ _ | show KswEnd _ _ _ _ _ _ _ _ _ _ _ _ | show WdEnd _ _ _ _ _ _ _ _ _ _ _ | show SrcStep _ _ _ _ _ _ _ _ _ _ _ _ _ _ | show LCg.CompEnd _ _ _ _ _ _ _ _ _ _ _ _ _ _ | show wpAny _ _ (pyIter _) _ _ _ | show wpAny _ _ (call (Value.builtin "str.join") _ _) _ _ _ | show wpAny _ _ (call (Value.ref _) _ _) _ _ _ | show wpAny _ _ (exec (Stmt.While _ _ _ _) _) _ _ _ | show wpAny _ _ (binaryOp Operator.LShift _ _) _ _ _ | show wpAny _ _ (binaryOp Operator.Mult _ _) _ _ _ | show wpAny _ _ (binaryOp Operator.Pow _ _) _ _ _ | show wpAny _ _ (eval (Expr.ListComp _ _ _ _) _) _ _ _ | show wpAny _ _ (exec (Stmt.Assign _ (Expr.ListComp _ _ _ _) _) _) _ _ _ | show wpAny _ _ (storeName _ _ _) _ _ _ | show wpAny _ _ (binaryOp Operator.Mod _ _) _ _ _ | show LCg.CompSrc _ _ _ _ _ _ _ _ _ _ _ _ _ _ | show wpAny _ _ (binaryOp Operator.Add (Value.str _ _) (Value.str _ _)) _ _ _))); first | (k_end; wrow_close) | walk1 | (dsimp only; walk1) | (leave1; walk_say "STEP leave1"; try dsimp only) | fail "no step")))
  try dsimp only
  refine PyProof.Rows.mod_int' (by decide) ?_
  rw [show [d0, d1, d2, d3, d4, d5].getD (Int.toNat 1) 0 = d1 from rfl]
  (repeat' (first | (k_unfold; (try dsimp only)) | ((fail_if_success (with_reducible (first | show InvEndN _ _ _ _ _ _ _ | show KswEnd _ _ _ _ _ _ _ _ _ _ _ _ | show WdEnd _ _ _ _ _ _ _ _ _ _ _ | show SrcStep _ _ _ _ _ _ _ _ _ _ _ _ _ _ | show LCg.CompEnd _ _ _ _ _ _ _ _ _ _ _ _ _ _ | show wpAny _ _ (pyIter _) _ _ _ | show wpAny _ _ (call (Value.builtin "str.join") _ _) _ _ _ | show wpAny _ _ (call (Value.ref _) _ _) _ _ _ | show wpAny _ _ (exec (Stmt.While _ _ _ _) _) _ _ _ | show wpAny _ _ (binaryOp Operator.LShift _ _) _ _ _ | show wpAny _ _ (binaryOp Operator.Mult _ _) _ _ _ | show wpAny _ _ (binaryOp Operator.Pow _ _) _ _ _ | show wpAny _ _ (eval (Expr.ListComp _ _ _ _) _) _ _ _ | show wpAny _ _ (exec (Stmt.Assign _ (Expr.ListComp _ _ _ _) _) _) _ _ _ | show wpAny _ _ (storeName _ _ _) _ _ _ | show wpAny _ _ (binaryOp Operator.Mod _ _) _ _ _ | show LCg.CompSrc _ _ _ _ _ _ _ _ _ _ _ _ _ _ | show wpAny _ _ (binaryOp Operator.Add (Value.str _ _) (Value.str _ _)) _ _ _))); first | (k_end; wrow_close) | walk1 | (dsimp only; walk1) | (leave1; walk_say "STEP leave1"; try dsimp only) | fail "no step")))
  try dsimp only
  refine PyProof.Rows.lshift_int (shiftN d1).1 (shiftN d1).2 ?_
  generalize (1 * 2 ^ (d1.fmod 600).toNat : Int) = pw
  (repeat' (first | (k_unfold; (try dsimp only)) | ((fail_if_success (with_reducible (first | show InvEndN _ _ _ _ _ _ _ | show KswEnd _ _ _ _ _ _ _ _ _ _ _ _ | show WdEnd _ _ _ _ _ _ _ _ _ _ _ | show SrcStep _ _ _ _ _ _ _ _ _ _ _ _ _ _ | show LCg.CompEnd _ _ _ _ _ _ _ _ _ _ _ _ _ _ | show wpAny _ _ (pyIter _) _ _ _ | show wpAny _ _ (call (Value.builtin "str.join") _ _) _ _ _ | show wpAny _ _ (call (Value.ref _) _ _) _ _ _ | show wpAny _ _ (exec (Stmt.While _ _ _ _) _) _ _ _ | show wpAny _ _ (binaryOp Operator.LShift _ _) _ _ _ | show wpAny _ _ (binaryOp Operator.Mult _ _) _ _ _ | show wpAny _ _ (binaryOp Operator.Pow _ _) _ _ _ | show wpAny _ _ (eval (Expr.ListComp _ _ _ _) _) _ _ _ | show wpAny _ _ (exec (Stmt.Assign _ (Expr.ListComp _ _ _ _) _) _) _ _ _ | show wpAny _ _ (storeName _ _ _) _ _ _ | show wpAny _ _ (binaryOp Operator.Mod _ _) _ _ _ | show LCg.CompSrc _ _ _ _ _ _ _ _ _ _ _ _ _ _ | show wpAny _ _ (binaryOp Operator.Add (Value.str _ _) (Value.str _ _)) _ _ _))); first | (k_end; wrow_close) | walk1 | (dsimp only; walk1) | (leave1; walk_say "STEP leave1"; try dsimp only) | fail "no step")))
  try dsimp only
  refine PyProof.Rows.lshift_int (by decide) (by decide) ?_
  (repeat' (first | (k_unfold; (try dsimp only)) | ((fail_if_success (with_reducible (first | show InvEndN _ _ _ _ _ _ _ | show KswEnd _ _ _ _ _ _ _ _ _ _ _ _ | show WdEnd _ _ _ _ _ _ _ _ _ _ _ | show SrcStep _ _ _ _ _ _ _ _ _ _ _ _ _ _ | show LCg.CompEnd _ _ _ _ _ _ _ _ _ _ _ _ _ _ | show wpAny _ _ (pyIter _) _ _ _ | show wpAny _ _ (call (Value.builtin "str.join") _ _) _ _ _ | show wpAny _ _ (call (Value.ref _) _ _) _ _ _ | show wpAny _ _ (exec (Stmt.While _ _ _ _) _) _ _ _ | show wpAny _ _ (binaryOp Operator.LShift _ _) _ _ _ | show wpAny _ _ (binaryOp Operator.Mult _ _) _ _ _ | show wpAny _ _ (binaryOp Operator.Pow _ _) _ _ _ | show wpAny _ _ (eval (Expr.ListComp _ _ _ _) _) _ _ _ | show wpAny _ _ (exec (Stmt.Assign _ (Expr.ListComp _ _ _ _) _) _) _ _ _ | show wpAny _ _ (storeName _ _ _) _ _ _ | show wpAny _ _ (binaryOp Operator.Mod _ _) _ _ _ | show LCg.CompSrc _ _ _ _ _ _ _ _ _ _ _ _ _ _ | show wpAny _ _ (binaryOp Operator.Add (Value.str _ _) (Value.str _ _)) _ _ _))); first | (k_end; wrow_close) | walk1 | (dsimp only; walk1) | (leave1; walk_say "STEP leave1"; try dsimp only) | fail "no step")))
  try dsimp only
  refine PyProof.Rows.mod_int' ne600 ?_
  rw [show [d0, d1, d2, d3, d4, d5].getD (Int.toNat 2) 0 = d2 from rfl]
  obtain ⟨nr, hnr, hnr2⟩ := modN (pw + d2)
  rw [hnr]
  clear hnr
  (repeat' (first | (k_unfold; (try dsimp only)) | ((fail_if_success (with_reducible (first | show InvEndN _ _ _ _ _ _ _ | show KswEnd _ _ _ _ _ _ _ _ _ _ _ _ | show WdEnd _ _ _ _ _ _ _ _ _ _ _ | show SrcStep _ _ _ _ _ _ _ _ _ _ _ _ _ _ | show LCg.CompEnd _ _ _ _ _ _ _ _ _ _ _ _ _ _ | show wpAny _ _ (pyIter _) _ _ _ | show wpAny _ _ (call (Value.builtin "str.join") _ _) _ _ _ | show wpAny _ _ (call (Value.ref _) _ _) _ _ _ | show wpAny _ _ (exec (Stmt.While _ _ _ _) _) _ _ _ | show wpAny _ _ (binaryOp Operator.LShift _ _) _ _ _ | show wpAny _ _ (binaryOp Operator.Mult _ _) _ _ _ | show wpAny _ _ (binaryOp Operator.Pow _ _) _ _ _ | show wpAny _ _ (eval (Expr.ListComp _ _ _ _) _) _ _ _ | show wpAny _ _ (exec (Stmt.Assign _ (Expr.ListComp _ _ _ _) _) _) _ _ _ | show wpAny _ _ (storeName _ _ _) _ _ _ | show wpAny _ _ (binaryOp Operator.Mod _ _) _ _ _ | show LCg.CompSrc _ _ _ _ _ _ _ _ _ _ _ _ _ _ | show wpAny _ _ (binaryOp Operator.Add (Value.str _ _) (Value.str _ _)) _ _ _))); first | (k_end; wrow_close) | walk1 | (dsimp only; walk1) | (leave1; walk_say "STEP leave1"; try dsimp only) | fail "no step")))
  try dsimp only
  walk1
  (repeat' (first | (k_unfold; (try dsimp only)) | ((fail_if_success (with_reducible (first | show InvEndN _ _ _ _ _ _ _ | show KswEnd _ _ _ _ _ _ _ _ _ _ _ _ | show WdEnd _ _ _ _ _ _ _ _ _ _ _ | show SrcStep _ _ _ _ _ _ _ _ _ _ _ _ _ _ | show LCg.CompEnd _ _ _ _ _ _ _ _ _ _ _ _ _ _ | show wpAny _ _ (pyIter _) _ _ _ | show wpAny _ _ (call (Value.builtin "str.join") _ _) _ _ _ | show wpAny _ _ (call (Value.ref _) _ _) _ _ _ | show wpAny _ _ (exec (Stmt.While _ _ _ _) _) _ _ _ | show wpAny _ _ (binaryOp Operator.LShift _ _) _ _ _ | show wpAny _ _ (binaryOp Operator.Mult _ _) _ _ _ | show wpAny _ _ (binaryOp Operator.Pow _ _) _ _ _ | show wpAny _ _ (eval (Expr.ListComp _ _ _ _) _) _ _ _ | show wpAny _ _ (exec (Stmt.Assign _ (Expr.ListComp _ _ _ _) _) _) _ _ _ | show wpAny _ _ (storeName _ _ _) _ _ _ | show wpAny _ _ (binaryOp Operator.Mod _ _) _ _ _ | show LCg.CompSrc _ _ _ _ _ _ _ _ _ _ _ _ _ _ | show wpAny _ _ (binaryOp Operator.Add (Value.str _ _) (Value.str _ _)) _ _ _))); first | (k_end; wrow_close) | walk1 | (dsimp only; walk1) | (leave1; walk_say "STEP leave1"; try dsimp only) | fail "no step")))
  try dsimp only
  refine wpC_execs_consA ?_
  (repeat' (first | (k_unfold; (try dsimp only)) | ((fail_if_success (with_reducible (first | show InvEndN _ _ _ _ _ _ _ | show KswEnd _ _ _ _ _ _ _ _ _ _ _ _ | show WdEnd _ _ _ _ _ _ _ _ _ _ _ | show SrcStep _ _ _ _ _ _ _ _ _ _ _ _ _ _ | show LCg.CompEnd _ _ _ _ _ _ _ _ _ _ _ _ _ _ | show wpAny _ _ (pyIter _) _ _ _ | show wpAny _ _ (call (Value.builtin "str.join") _ _) _ _ _ | show wpAny _ _ (call (Value.ref _) _ _) _ _ _ | show wpAny _ _ (exec (Stmt.While _ _ _ _) _) _ _ _ | show wpAny _ _ (binaryOp Operator.LShift _ _) _ _ _ | show wpAny _ _ (binaryOp Operator.Mult _ _) _ _ _ | show wpAny _ _ (binaryOp Operator.Pow _ _) _ _ _ | show wpAny _ _ (eval (Expr.ListComp _ _ _ _) _) _ _ _ | show wpAny _ _ (exec (Stmt.Assign _ (Expr.ListComp _ _ _ _) _) _) _ _ _ | show wpAny _ _ (storeName _ _ _) _ _ _ | show wpAny _ _ (binaryOp Operator.Mod _ _) _ _ _ | show LCg.CompSrc _ _ _ _ _ _ _ _ _ _ _ _ _ _ | show wpAny _ _ (binaryOp Operator.Add (Value.str _ _) (Value.str _ _)) _ _ _))); first | (k_end; wrow_close) | walk1 | (dsimp only; walk1) | (leave1; walk_say "STEP leave1"; try dsimp only) | fail "no step")))
  refine PyProof.Rows.mod_int' (by decide) ?_
  rw [show [d0, d1, d2, d3, d4, d5].getD (Int.toNat 5) 0 = d5 from rfl]
  (repeat' (first | (k_unfold; (try dsimp only)) | ((fail_if_success (with_reducible (first | show InvEndN _ _ _ _ _ _ _ | show KswEnd _ _ _ _ _ _ _ _ _ _ _ _ | show WdEnd _ _ _ _ _ _ _ _ _ _ _ | show SrcStep _ _ _ _ _ _ _ _ _ _ _ _ _ _ | show LCg.CompEnd _ _ _ _ _ _ _ _ _ _ _ _ _ _ | show wpAny _ _ (pyIter _) _ _ _ | show wpAny _ _ (call (Value.builtin "str.join") _ _) _ _ _ | show wpAny _ _ (call (Value.ref _) _ _) _ _ _ | show wpAny _ _ (exec (Stmt.While _ _ _ _) _) _ _ _ | show wpAny _ _ (binaryOp Operator.LShift _ _) _ _ _ | show wpAny _ _ (binaryOp Operator.Mult _ _) _ _ _ | show wpAny _ _ (binaryOp Operator.Pow _ _) _ _ _ | show wpAny _ _ (eval (Expr.ListComp _ _ _ _) _) _ _ _ | show wpAny _ _ (exec (Stmt.Assign _ (Expr.ListComp _ _ _ _) _) _) _ _ _ | show wpAny _ _ (storeName _ _ _) _ _ _ | show wpAny _ _ (binaryOp Operator.Mod _ _) _ _ _ | show LCg.CompSrc _ _ _ _ _ _ _ _ _ _ _ _ _ _ | show wpAny _ _ (binaryOp Operator.Add (Value.str _ _) (Value.str _ _)) _ _ _))); first | (k_end; wrow_close) | walk1 | (dsimp only; walk1) | (leave1; walk_say "STEP leave1"; try dsimp only) | fail "no step")))
  obtain ⟨W, hW, hW1, hW2⟩ := widthN d5
  rw [hW]
  clear hW
  try dsimp only
  walk1
  (repeat' (first | (k_unfold; (try dsimp only)) | ((fail_if_success (with_reducible (first | show InvEndN _ _ _ _ _ _ _ | show KswEnd _ _ _ _ _ _ _ _ _ _ _ _ | show WdEnd _ _ _ _ _ _ _ _ _ _ _ | show SrcStep _ _ _ _ _ _ _ _ _ _ _ _ _ _ | show LCg.CompEnd _ _ _ _ _ _ _ _ _ _ _ _ _ _ | show wpAny _ _ (pyIter _) _ _ _ | show wpAny _ _ (call (Value.builtin "str.join") _ _) _ _ _ | show wpAny _ _ (call (Value.ref _) _ _) _ _ _ | show wpAny _ _ (exec (Stmt.While _ _ _ _) _) _ _ _ | show wpAny _ _ (binaryOp Operator.LShift _ _) _ _ _ | show wpAny _ _ (binaryOp Operator.Mult _ _) _ _ _ | show wpAny _ _ (binaryOp Operator.Pow _ _) _ _ _ | show wpAny _ _ (eval (Expr.ListComp _ _ _ _) _) _ _ _ | show wpAny _ _ (exec (Stmt.Assign _ (Expr.ListComp _ _ _ _) _) _) _ _ _ | show wpAny _ _ (storeName _ _ _) _ _ _ | show wpAny _ _ (binaryOp Operator.Mod _ _) _ _ _ | show LCg.CompSrc _ _ _ _ _ _ _ _ _ _ _ _ _ _ | show wpAny _ _ (binaryOp Operator.Add (Value.str _ _) (Value.str _ _)) _ _ _))); first | (k_end; wrow_close) | walk1 | (dsimp only; walk1) | (leave1; walk_say "STEP leave1"; try dsimp only) | fail "no step")))
  try dsimp only
  refine wpC_execs_consA ?_
  (repeat' (first | (k_unfold; (try dsimp only)) | ((fail_if_success (with_reducible (first | show InvEndN _ _ _ _ _ _ _ | show KswEnd _ _ _ _ _ _ _ _ _ _ _ _ | show WdEnd _ _ _ _ _ _ _ _ _ _ _ | show SrcStep _ _ _ _ _ _ _ _ _ _ _ _ _ _ | show LCg.CompEnd _ _ _ _ _ _ _ _ _ _ _ _ _ _ | show wpAny _ _ (pyIter _) _ _ _ | show wpAny _ _ (call (Value.builtin "str.join") _ _) _ _ _ | show wpAny _ _ (call (Value.ref _) _ _) _ _ _ | show wpAny _ _ (exec (Stmt.While _ _ _ _) _) _ _ _ | show wpAny _ _ (binaryOp Operator.LShift _ _) _ _ _ | show wpAny _ _ (binaryOp Operator.Mult _ _) _ _ _ | show wpAny _ _ (binaryOp Operator.Pow _ _) _ _ _ | show wpAny _ _ (eval (Expr.ListComp _ _ _ _) _) _ _ _ | show wpAny _ _ (exec (Stmt.Assign _ (Expr.ListComp _ _ _ _) _) _) _ _ _ | show wpAny _ _ (storeName _ _ _) _ _ _ | show wpAny _ _ (binaryOp Operator.Mod _ _) _ _ _ | show LCg.CompSrc _ _ _ _ _ _ _ _ _ _ _ _ _ _ | show wpAny _ _ (binaryOp Operator.Add (Value.str _ _) (Value.str _ _)) _ _ _))); first | (k_end; wrow_close) | walk1 | (dsimp only; walk1) | (leave1; walk_say "STEP leave1"; try dsimp only) | fail "no step")))
  have hr3 := bits_rep (d := 3) (by decide) k
  refine PyProof.Rows.mul_int ?_ (mul_ok (by rw [show Builtin.Int.intBits 3 = 2 from by decide +kernel]; (first | lia | omega)))
  (repeat' (first | (k_unfold; (try dsimp only)) | ((fail_if_success (with_reducible (first | show InvEndN _ _ _ _ _ _ _ | show KswEnd _ _ _ _ _ _ _ _ _ _ _ _ | show WdEnd _ _ _ _ _ _ _ _ _ _ _ | show SrcStep _ _ _ _ _ _ _ _ _ _ _ _ _ _ | show LCg.CompEnd _ _ _ _ _ _ _ _ _ _ _ _ _ _ | show wpAny _ _ (pyIter _) _ _ _ | show wpAny _ _ (call (Value.builtin "str.join") _ _) _ _ _ | show wpAny _ _ (call (Value.ref _) _ _) _ _ _ | show wpAny _ _ (exec (Stmt.While _ _ _ _) _) _ _ _ | show wpAny _ _ (binaryOp Operator.LShift _ _) _ _ _ | show wpAny _ _ (binaryOp Operator.Mult _ _) _ _ _ | show wpAny _ _ (binaryOp Operator.Pow _ _) _ _ _ | show wpAny _ _ (eval (Expr.ListComp _ _ _ _) _) _ _ _ | show wpAny _ _ (exec (Stmt.Assign _ (Expr.ListComp _ _ _ _) _) _) _ _ _ | show wpAny _ _ (storeName _ _ _) _ _ _ | show wpAny _ _ (binaryOp Operator.Mod _ _) _ _ _ | show LCg.CompSrc _ _ _ _ _ _ _ _ _ _ _ _ _ _ | show wpAny _ _ (binaryOp Operator.Add (Value.str _ _) (Value.str _ _)) _ _ _))); first | (k_end; wrow_close) | walk1 | (dsimp only; walk1) | (leave1; walk_say "STEP leave1"; try dsimp only) | fail "no step")))
  refine PyProof.Rows.mul_int ?_ (mul_ok (bits_4 (by (first | lia | omega))))
  (repeat' (first | (k_unfold; (try dsimp only)) | ((fail_if_success (with_reducible (first | show InvEndN _ _ _ _ _ _ _ | show KswEnd _ _ _ _ _ _ _ _ _ _ _ _ | show WdEnd _ _ _ _ _ _ _ _ _ _ _ | show SrcStep _ _ _ _ _ _ _ _ _ _ _ _ _ _ | show LCg.CompEnd _ _ _ _ _ _ _ _ _ _ _ _ _ _ | show wpAny _ _ (pyIter _) _ _ _ | show wpAny _ _ (call (Value.builtin "str.join") _ _) _ _ _ | show wpAny _ _ (call (Value.ref _) _ _) _ _ _ | show wpAny _ _ (exec (Stmt.While _ _ _ _) _) _ _ _ | show wpAny _ _ (binaryOp Operator.LShift _ _) _ _ _ | show wpAny _ _ (binaryOp Operator.Mult _ _) _ _ _ | show wpAny _ _ (binaryOp Operator.Pow _ _) _ _ _ | show wpAny _ _ (eval (Expr.ListComp _ _ _ _) _) _ _ _ | show wpAny _ _ (exec (Stmt.Assign _ (Expr.ListComp _ _ _ _) _) _) _ _ _ | show wpAny _ _ (storeName _ _ _) _ _ _ | show wpAny _ _ (binaryOp Operator.Mod _ _) _ _ _ | show LCg.CompSrc _ _ _ _ _ _ _ _ _ _ _ _ _ _ | show wpAny _ _ (binaryOp Operator.Add (Value.str _ _) (Value.str _ _)) _ _ _))); first | (k_end; wrow_close) | walk1 | (dsimp only; walk1) | (leave1; walk_say "STEP leave1"; try dsimp only) | fail "no step")))
  try dsimp only
  refine PyProof.Rows.lshift_int (by (first | lia | omega)) (by rw [show Builtin.Int.intBits 1 = 1 from by decide +kernel]; (first | lia | omega)) ?_
  (repeat' (first | (k_unfold; (try dsimp only)) | ((fail_if_success (with_reducible (first | show InvEndN _ _ _ _ _ _ _ | show KswEnd _ _ _ _ _ _ _ _ _ _ _ _ | show WdEnd _ _ _ _ _ _ _ _ _ _ _ | show SrcStep _ _ _ _ _ _ _ _ _ _ _ _ _ _ | show LCg.CompEnd _ _ _ _ _ _ _ _ _ _ _ _ _ _ | show wpAny _ _ (pyIter _) _ _ _ | show wpAny _ _ (call (Value.builtin "str.join") _ _) _ _ _ | show wpAny _ _ (call (Value.ref _) _ _) _ _ _ | show wpAny _ _ (exec (Stmt.While _ _ _ _) _) _ _ _ | show wpAny _ _ (binaryOp Operator.LShift _ _) _ _ _ | show wpAny _ _ (binaryOp Operator.Mult _ _) _ _ _ | show wpAny _ _ (binaryOp Operator.Pow _ _) _ _ _ | show wpAny _ _ (eval (Expr.ListComp _ _ _ _) _) _ _ _ | show wpAny _ _ (exec (Stmt.Assign _ (Expr.ListComp _ _ _ _) _) _) _ _ _ | show wpAny _ _ (storeName _ _ _) _ _ _ | show wpAny _ _ (binaryOp Operator.Mod _ _) _ _ _ | show LCg.CompSrc _ _ _ _ _ _ _ _ _ _ _ _ _ _ | show wpAny _ _ (binaryOp Operator.Add (Value.str _ _) (Value.str _ _)) _ _ _))); first | (k_end; wrow_close) | walk1 | (dsimp only; walk1) | (leave1; walk_say "STEP leave1"; try dsimp only) | fail "no step")))
  rw [nines_int (W := W) (k := k) (by (first | lia | omega))]
  try dsimp only
  walk1
  (repeat' (first | (k_unfold; (try dsimp only)) | ((fail_if_success (with_reducible (first | show InvEndN _ _ _ _ _ _ _ | show KswEnd _ _ _ _ _ _ _ _ _ _ _ _ | show WdEnd _ _ _ _ _ _ _ _ _ _ _ | show SrcStep _ _ _ _ _ _ _ _ _ _ _ _ _ _ | show LCg.CompEnd _ _ _ _ _ _ _ _ _ _ _ _ _ _ | show wpAny _ _ (pyIter _) _ _ _ | show wpAny _ _ (call (Value.builtin "str.join") _ _) _ _ _ | show wpAny _ _ (call (Value.ref _) _ _) _ _ _ | show wpAny _ _ (exec (Stmt.While _ _ _ _) _) _ _ _ | show wpAny _ _ (binaryOp Operator.LShift _ _) _ _ _ | show wpAny _ _ (binaryOp Operator.Mult _ _) _ _ _ | show wpAny _ _ (binaryOp Operator.Pow _ _) _ _ _ | show wpAny _ _ (eval (Expr.ListComp _ _ _ _) _) _ _ _ | show wpAny _ _ (exec (Stmt.Assign _ (Expr.ListComp _ _ _ _) _) _) _ _ _ | show wpAny _ _ (storeName _ _ _) _ _ _ | show wpAny _ _ (binaryOp Operator.Mod _ _) _ _ _ | show LCg.CompSrc _ _ _ _ _ _ _ _ _ _ _ _ _ _ | show wpAny _ _ (binaryOp Operator.Add (Value.str _ _) (Value.str _ _)) _ _ _))); first | (k_end; wrow_close) | walk1 | (dsimp only; walk1) | (leave1; walk_say "STEP leave1"; try dsimp only) | fail "no step")))
  try dsimp only
  refine wpC_execs_consA ?_
  (repeat' (first | (k_unfold; (try dsimp only)) | ((fail_if_success (with_reducible (first | show InvEndN _ _ _ _ _ _ _ | show KswEnd _ _ _ _ _ _ _ _ _ _ _ _ | show WdEnd _ _ _ _ _ _ _ _ _ _ _ | show SrcStep _ _ _ _ _ _ _ _ _ _ _ _ _ _ | show LCg.CompEnd _ _ _ _ _ _ _ _ _ _ _ _ _ _ | show wpAny _ _ (pyIter _) _ _ _ | show wpAny _ _ (call (Value.builtin "str.join") _ _) _ _ _ | show wpAny _ _ (call (Value.ref _) _ _) _ _ _ | show wpAny _ _ (exec (Stmt.While _ _ _ _) _) _ _ _ | show wpAny _ _ (binaryOp Operator.LShift _ _) _ _ _ | show wpAny _ _ (binaryOp Operator.Mult _ _) _ _ _ | show wpAny _ _ (binaryOp Operator.Pow _ _) _ _ _ | show wpAny _ _ (eval (Expr.ListComp _ _ _ _) _) _ _ _ | show wpAny _ _ (exec (Stmt.Assign _ (Expr.ListComp _ _ _ _) _) _) _ _ _ | show wpAny _ _ (storeName _ _ _) _ _ _ | show wpAny _ _ (binaryOp Operator.Mod _ _) _ _ _ | show LCg.CompSrc _ _ _ _ _ _ _ _ _ _ _ _ _ _ | show wpAny _ _ (binaryOp Operator.Add (Value.str _ _) (Value.str _ _)) _ _ _))); first | (k_end; wrow_close) | walk1 | (dsimp only; walk1) | (leave1; walk_say "STEP leave1"; try dsimp only) | fail "no step")))
  try dsimp only
  walk1
  (repeat' (first | (k_unfold; (try dsimp only)) | ((fail_if_success (with_reducible (first | show InvEndN _ _ _ _ _ _ _ | show KswEnd _ _ _ _ _ _ _ _ _ _ _ _ | show WdEnd _ _ _ _ _ _ _ _ _ _ _ | show SrcStep _ _ _ _ _ _ _ _ _ _ _ _ _ _ | show LCg.CompEnd _ _ _ _ _ _ _ _ _ _ _ _ _ _ | show wpAny _ _ (pyIter _) _ _ _ | show wpAny _ _ (call (Value.builtin "str.join") _ _) _ _ _ | show wpAny _ _ (call (Value.ref _) _ _) _ _ _ | show wpAny _ _ (exec (Stmt.While _ _ _ _) _) _ _ _ | show wpAny _ _ (binaryOp Operator.LShift _ _) _ _ _ | show wpAny _ _ (binaryOp Operator.Mult _ _) _ _ _ | show wpAny _ _ (binaryOp Operator.Pow _ _) _ _ _ | show wpAny _ _ (eval (Expr.ListComp _ _ _ _) _) _ _ _ | show wpAny _ _ (exec (Stmt.Assign _ (Expr.ListComp _ _ _ _) _) _) _ _ _ | show wpAny _ _ (storeName _ _ _) _ _ _ | show wpAny _ _ (binaryOp Operator.Mod _ _) _ _ _ | show LCg.CompSrc _ _ _ _ _ _ _ _ _ _ _ _ _ _ | show wpAny _ _ (binaryOp Operator.Add (Value.str _ _) (Value.str _ _)) _ _ _))); first | (k_end; wrow_close) | walk1 | (dsimp only; walk1) | (leave1; walk_say "STEP leave1"; try dsimp only) | fail "no step")))
  try dsimp only
  walk1
  (repeat' (first | (k_unfold; (try dsimp only)) | ((fail_if_success (with_reducible (first | show InvEndN _ _ _ _ _ _ _ | show KswEnd _ _ _ _ _ _ _ _ _ _ _ _ | show WdEnd _ _ _ _ _ _ _ _ _ _ _ | show SrcStep _ _ _ _ _ _ _ _ _ _ _ _ _ _ | show LCg.CompEnd _ _ _ _ _ _ _ _ _ _ _ _ _ _ | show wpAny _ _ (pyIter _) _ _ _ | show wpAny _ _ (call (Value.builtin "str.join") _ _) _ _ _ | show wpAny _ _ (call (Value.ref _) _ _) _ _ _ | show wpAny _ _ (exec (Stmt.While _ _ _ _) _) _ _ _ | show wpAny _ _ (binaryOp Operator.LShift _ _) _ _ _ | show wpAny _ _ (binaryOp Operator.Mult _ _) _ _ _ | show wpAny _ _ (binaryOp Operator.Pow _ _) _ _ _ | show wpAny _ _ (eval (Expr.ListComp _ _ _ _) _) _ _ _ | show wpAny _ _ (exec (Stmt.Assign _ (Expr.ListComp _ _ _ _) _) _) _ _ _ | show wpAny _ _ (storeName _ _ _) _ _ _ | show wpAny _ _ (binaryOp Operator.Mod _ _) _ _ _ | show LCg.CompSrc _ _ _ _ _ _ _ _ _ _ _ _ _ _ | show wpAny _ _ (binaryOp Operator.Add (Value.str _ _) (Value.str _ _)) _ _ _))); first | (k_end; wrow_close) | walk1 | (dsimp only; walk1) | (leave1; walk_say "STEP leave1"; try dsimp only) | fail "no step")))
  try dsimp only
  rename Fr h₀ L _ _ => F9
  rename News h₀ L _ _ => N9
  refine' law3 hdef' hk hn2 hnr2 hW1 hW2 C B (frAt F9 ?fr) X (fun q hq => N9 q (.tail _ (.tail _ hq))) T hd hu hret
  case fr => repeat' (first | exact List.forall_mem_nil _ | refine List.forall_mem_cons.mpr ⟨rfl, ?_⟩)

end
end Mine
end
section
theorem Mine.reset_D1 : True := by
  w_top off
  exact trivial
open PySem PySem.W PySem.NumText PyProof.Rows
set_option maxRecDepth 100000
set_option linter.unusedVariables false
namespace Mine
theorem fill_21 (w : World) (h : Heap) : Frag.In (Mine.Head.hd.heap_39 w.params) h → Challenge.rw_lo0013_01.row.prog = Challenge.rw_lo0013_01.row.prog := by
  k_fill
  intros; rfl
section
variable {w : World} {p : Program} {loose : List Str} {mean : ExcName → Option Value} {mg mb : Str → Option Value} {dp un : Nat} {gd : Option (List Code)} {cn : Str} {cs : Scope} {a : Addr} {ccd : Value} {cl : List (Str × Addr)} {outer : List Env} {A₀ : Around} {base h₀ : Heap} {L : Addr} {m : Str → Option Value} {news : List (Addr × Obj)} {s : Shared} {Q E : Value → Shared → Prop}

noncomputable def sixN (k len : Nat) : Nat := (Builtin.Range.rangeSize (k : Int) (len : Int) 6).toNat
theorem six_ok : ∀ (k : Fin 6) (len : Fin 25), Builtin.Range.small (k.1 : Int) (len.1 : Int) 6 = true ∧ Builtin.Range.rangeSize (k.1 : Int) (len.1 : Int) 6 = ((sixN k.1 len.1 : Nat) : Int) ∧ sixN k.1 len.1 ≤ 24 ∧ ∀ i : Fin 24, i.1 < sixN k.1 len.1 → k.1 + i.1 * 6 < len.1 := by decide +kernel
noncomputable def sixKs (k len : Nat) : List Int := (List.range (sixN k len)).map fun (i : Nat) => (k : Int) + (i : Int) * 6
theorem sixKs_length (k len : Nat) : (sixKs k len).length = sixN k len := by simp [sixKs]
theorem sixKs_at {k len i : Nat} (hi : i < sixN k len) : (sixKs k len)[i]? = some ((k : Int) + (i : Int) * 6) := by simp [sixKs, hi]
theorem mem_sixKs {k len : Nat} {j : Int} (hk : k < 6) (hl : len < 25) (h : j ∈ sixKs k len) : 0 ≤ j ∧ j < (len : Int) := by
  simp only [sixKs, List.mem_map, List.mem_range] at h
  obtain ⟨i, hi, rfl⟩ := h
  obtain ⟨_, _, h3, h4⟩ := six_ok ⟨k, hk⟩ ⟨len, hl⟩
  dsimp only at h3 h4
  have := h4 ⟨i, by (first | lia | omega)⟩ hi
  dsimp only at this
  (first | lia | omega)
noncomputable def drawOf (ns : List Int) (k : Int) : Int := ((sixKs k.toNat (ns.take 24).length).map fun j => (ns.take 24).getD j.toNat 0).sum
theorem ints6 {ys : List Value} {a b c d e f : Int} (h : IntsAre ys [a, b, c, d, e, f]) : ∃ u0 u1 u2 u3 u4 u5, ys = [.int a u0, .int b u1, .int c u2, .int d u3, .int e u4, .int f u5] := by
  cases h with | cons _ u0 h => cases h with | cons _ u1 h => cases h with | cons _ u2 h => cases h with | cons _ u3 h => cases h with | cons _ u4 h => cases h with | cons _ u5 h => cases h with | nil => exact ⟨u0, u1, u2, u3, u4, u5, rfl⟩
set_option maxHeartbeats 8000000 in
theorem law1 {params : Arguments} {body : List Stmt} {scope : Scope} (hdef : lawOf = (params, body, scope)) {l : Addr} {items : List Value} {ns : List Int} {oC : Obj} (hl : h₀.IsList l items.toArray) (hI : IntsAre items ns) (hlen : ns.length ≤ 63) (hoC : oC.data = .cell none)
    (C : CodeHd h₀ 28 24) (h24 : 24 < L)
    (B : Below A₀ h₀ [] h₀) (F : Fr h₀ L s.heap (kstB m [(PySem.Str.ofString "script", .ref l)])) (X : Frag.In (Mine.Head.hd.heap_39 w.params) h₀) (N : News h₀ L s.heap [(L + 1, oC), (24, tabObj #[])]) (T : Top p loose mean mg mb h₀) (hd : dp + 20 < recursionLimit) (hu : un + 100 < cLine) {Q : Flow → Shared → Prop}
    (hret : ∀ h' tk' dr' m' c', Fr h₀ L h' m' → News h₀ L h' [(24, tabObj #[rawInt 46, rawInt 4, .ref c'])] → Q (.ret (.bool true)) { s with heap := h', toks := tk', drawn := dr' }) :
    wpC (model Challenge.rw_lo0013_01.row.prog w) (ktrTop dp un gd (PySem.Str.ofString "law") scope L a ccd [(PySem.Str.ofString "cells", L + 1)] []) (execs body (envX (PySem.Str.ofString "law") scope L a ccd [(PySem.Str.ofString "cells", L + 1)])) Q (fun _ _ => False) s := by
  have e : lawOf = (_, [_, _, _, _, _, _, _, _, _, _, _, _, _, _, _, _, _, _, _], _) := rfl
  rw [e] at hdef
  have hdef' := hdef
  cases hdef
  refine wpC_execs_consA ?_
  (repeat' (first | (k_unfold; (try dsimp only)) | ((fail_if_success (with_reducible (first | show InvEndN _ _ _ _ _ _ _ | show KswEnd _ _ _ _ _ _ _ _ _ _ _ _ | show WdEnd _ _ _ _ _ _ _ _ _ _ _ | show SrcStep _ _ _ _ _ _ _ _ _ _ _ _ _ _ | show LCg.CompEnd _ _ _ _ _ _ _ _ _ _ _ _ _ _ | show wpAny _ _ (pyIter _) _ _ _ | show wpAny _ _ (call (Value.builtin "str.join") _ _) _ _ _ | show wpAny _ _ (call (Value.ref _) _ _) _ _ _ | show wpAny _ _ (exec (Stmt.While _ _ _ _) _) _ _ _ | show wpAny _ _ (binaryOp Operator.LShift _ _) _ _ _ | show wpAny _ _ (binaryOp Operator.Mult _ _) _ _ _ | show wpAny _ _ (binaryOp Operator.Pow _ _) _ _ _ | show wpAny _ _ (eval (Expr.ListComp _ _ _ _) _) _ _ _ | show wpAny _ _ (exec (Stmt.Assign _ (Expr.ListComp _ _ _ _) _) _) _ _ _ | show LCg.CompSrc _ _ _ _ _ _ _ _ _ _ _ _ _ _))); first | (k_end; wrow_close) | walk1 | (dsimp only; walk1) | (leave1; walk_say "STEP leave1"; try dsimp only) | fail "no step")))
  rename_i D ws h1 F1 N1 hI1 hC1 hL1 l1
  refine storeX_C F1 N1 (c := L + 1) rfl (UpdF.tail (Nat.ne_of_gt l1.1) (UpdF.head (fun p hp => by rw [List.mem_singleton.mp hp]; exact Nat.ne_of_lt (Nat.lt_succ_of_lt h24)))) hoC ?_
  intro h2 oC2 F2 N2 dC2
  (repeat' (first | (k_unfold; (try dsimp only)) | ((fail_if_success (with_reducible (first | show InvEndN _ _ _ _ _ _ _ | show KswEnd _ _ _ _ _ _ _ _ _ _ _ _ | show WdEnd _ _ _ _ _ _ _ _ _ _ _ | show SrcStep _ _ _ _ _ _ _ _ _ _ _ _ _ _ | show LCg.CompEnd _ _ _ _ _ _ _ _ _ _ _ _ _ _ | show wpAny _ _ (pyIter _) _ _ _ | show wpAny _ _ (call (Value.builtin "str.join") _ _) _ _ _ | show wpAny _ _ (call (Value.ref _) _ _) _ _ _ | show wpAny _ _ (exec (Stmt.While _ _ _ _) _) _ _ _ | show wpAny _ _ (binaryOp Operator.LShift _ _) _ _ _ | show wpAny _ _ (binaryOp Operator.Mult _ _) _ _ _ | show wpAny _ _ (binaryOp Operator.Pow _ _) _ _ _ | show wpAny _ _ (eval (Expr.ListComp _ _ _ _) _) _ _ _ | show wpAny _ _ (exec (Stmt.Assign _ (Expr.ListComp _ _ _ _) _) _) _ _ _ | show LCg.CompSrc _ _ _ _ _ _ _ _ _ _ _ _ _ _))); first | (k_end; wrow_close) | walk1 | (dsimp only; walk1) | (leave1; walk_say "STEP leave1"; try dsimp only) | fail "no step")))
  refine wpC_execs_consA ?_
  refine LCg.Assign_ListComp_U (F₀ := by assumption) rfl (by with_unfolding_all rfl) (by with_unfolding_all rfl) (by decide) (by rfl) (by decide) (by rfl) (by rfl) (by rfl) ?_
  (repeat' (first | (k_unfold; (try dsimp only)) | ((fail_if_success (with_reducible (first | show InvEndN _ _ _ _ _ _ _ | show KswEnd _ _ _ _ _ _ _ _ _ _ _ _ | show WdEnd _ _ _ _ _ _ _ _ _ _ _ | show SrcStep _ _ _ _ _ _ _ _ _ _ _ _ _ _ | show LCg.CompEnd _ _ _ _ _ _ _ _ _ _ _ _ _ _ | show wpAny _ _ (pyIter _) _ _ _ | show wpAny _ _ (call (Value.builtin "str.join") _ _) _ _ _ | show wpAny _ _ (call (Value.ref _) _ _) _ _ _ | show wpAny _ _ (exec (Stmt.While _ _ _ _) _) _ _ _ | show wpAny _ _ (binaryOp Operator.LShift _ _) _ _ _ | show wpAny _ _ (binaryOp Operator.Mult _ _) _ _ _ | show wpAny _ _ (binaryOp Operator.Pow _ _) _ _ _ | show wpAny _ _ (eval (Expr.ListComp _ _ _ _) _) _ _ _ | show wpAny _ _ (exec (Stmt.Assign _ (Expr.ListComp _ _ _ _) _) _) _ _ _ | show LCg.CompSrc _ _ _ _ _ _ _ _ _ _ _ _ _ _))); first | (k_end; wrow_close) | walk1 | (dsimp only; walk1) | (leave1; walk_say "STEP leave1"; try dsimp only) | fail "no step")))
  refine LCg.CompSrc.range (n := 6) (by rfl) (by assumption) (by assumption) (by assumption) (by decide) (by decide) (by rw [sizeLine_eq]; decide) ?_
  intro g2
  refine kcf_range (drawOf ns) ?_ ?_
  · intro k' t' I' oI' C' oC' D' m' ys' h' tk' E' hlo' hhi' hC' hx' F' N' off' ne' hMark'
    obtain ⟨kn, rfl⟩ := Int.eq_ofNat_of_zero_le hlo'
    have hk6 : kn < 6 := by (first | lia | omega)
    (repeat' (first | (k_unfold; (try dsimp only)) | ((fail_if_success (with_reducible (first | show InvEndN _ _ _ _ _ _ _ | show KswEnd _ _ _ _ _ _ _ _ _ _ _ _ | show WdEnd _ _ _ _ _ _ _ _ _ _ _ | show SrcStep _ _ _ _ _ _ _ _ _ _ _ _ _ _ | show LCg.CompEnd _ _ _ _ _ _ _ _ _ _ _ _ _ _ | show wpAny _ _ (pyIter _) _ _ _ | show wpAny _ _ (call (Value.builtin "str.join") _ _) _ _ _ | show wpAny _ _ (call (Value.ref _) _ _) _ _ _ | show wpAny _ _ (exec (Stmt.While _ _ _ _) _) _ _ _ | show wpAny _ _ (binaryOp Operator.LShift _ _) _ _ _ | show wpAny _ _ (binaryOp Operator.Mult _ _) _ _ _ | show wpAny _ _ (binaryOp Operator.Pow _ _) _ _ _ | show wpAny _ _ (eval (Expr.ListComp _ _ _ _) _) _ _ _ | show wpAny _ _ (exec (Stmt.Assign _ (Expr.ListComp _ _ _ _) _) _) _ _ _ | show LCg.CompSrc _ _ _ _ _ _ _ _ _ _ _ _ _ _))); first | (k_end; wrow_close) | walk1 | (dsimp only; walk1) | (leave1; walk_say "STEP leave1"; try dsimp only) | fail "no step")))
    have hws : (ns.take 24).length < 25 := by (first | lia | omega)
    refine ListComp_step (by assumption) (by with_unfolding_all rfl) (by decide) (by rfl) (by decide) (by rfl) ?_
    (repeat' (first | (k_unfold; (try dsimp only)) | ((fail_if_success (with_reducible (first | show InvEndN _ _ _ _ _ _ _ | show KswEnd _ _ _ _ _ _ _ _ _ _ _ _ | show WdEnd _ _ _ _ _ _ _ _ _ _ _ | show SrcStep _ _ _ _ _ _ _ _ _ _ _ _ _ _ | show LCg.CompEnd _ _ _ _ _ _ _ _ _ _ _ _ _ _ | show wpAny _ _ (pyIter _) _ _ _ | show wpAny _ _ (call (Value.builtin "str.join") _ _) _ _ _ | show wpAny _ _ (call (Value.ref _) _ _) _ _ _ | show wpAny _ _ (exec (Stmt.While _ _ _ _) _) _ _ _ | show wpAny _ _ (binaryOp Operator.LShift _ _) _ _ _ | show wpAny _ _ (binaryOp Operator.Mult _ _) _ _ _ | show wpAny _ _ (binaryOp Operator.Pow _ _) _ _ _ | show wpAny _ _ (eval (Expr.ListComp _ _ _ _) _) _ _ _ | show wpAny _ _ (exec (Stmt.Assign _ (Expr.ListComp _ _ _ _) _) _) _ _ _ | show LCg.CompSrc _ _ _ _ _ _ _ _ _ _ _ _ _ _))); first | (k_end; wrow_close) | walk1 | (dsimp only; walk1) | (leave1; walk_say "STEP leave1"; try dsimp only) | fail "no step")))
    rename IsRange _ _ _ _ _ _ _ _ => rg
    obtain ⟨q1, q2, q3, q4⟩ := six_ok ⟨kn, hk6⟩ ⟨(ns.take 24).length, hws⟩
    dsimp only at q1 q2 q3 q4
    refine SrcStep.intro (by rfl) (by assumption) (by assumption) rg q1 q2 (by rw [sizeLine_eq]; (first | lia | omega)) ?_
    intro g3
    refine kcf_rest (fun j => (ns.take 24).getD j.toNat 0) (sixKs_length _ _) ?_ ?_ ?_
    · rintro i v hi ⟨t, rfl⟩
      exact ⟨_, t, sixKs_at hi, rfl⟩
    · intro k2 t2 I2 oI2 C2 oC2 D2 m2 ys2 h2 tk2 E2 hk2 hC2 hx2 F2 N2 off2 ne2 mk2
      have hj := mem_sixKs hk6 hws hk2
      dsimp only at F2 N2 ⊢
      (repeat' (first | (k_unfold; (try dsimp only)) | ((fail_if_success (with_reducible (first | show InvEndN _ _ _ _ _ _ _ | show KswEnd _ _ _ _ _ _ _ _ _ _ _ _ | show WdEnd _ _ _ _ _ _ _ _ _ _ _ | show SrcStep _ _ _ _ _ _ _ _ _ _ _ _ _ _ | show LCg.CompEnd _ _ _ _ _ _ _ _ _ _ _ _ _ _ | show wpAny _ _ (pyIter _) _ _ _ | show wpAny _ _ (call (Value.builtin "str.join") _ _) _ _ _ | show wpAny _ _ (call (Value.ref _) _ _) _ _ _ | show wpAny _ _ (exec (Stmt.While _ _ _ _) _) _ _ _ | show wpAny _ _ (binaryOp Operator.LShift _ _) _ _ _ | show wpAny _ _ (binaryOp Operator.Mult _ _) _ _ _ | show wpAny _ _ (binaryOp Operator.Pow _ _) _ _ _ | show wpAny _ _ (eval (Expr.ListComp _ _ _ _) _) _ _ _ | show wpAny _ _ (exec (Stmt.Assign _ (Expr.ListComp _ _ _ _) _) _) _ _ _ | show LCg.CompSrc _ _ _ _ _ _ _ _ _ _ _ _ _ _))); first | (k_end; wrow_close) | walk1 | (dsimp only; walk1) | (leave1; walk_say "STEP leave1"; try dsimp only) | fail "no step")))
      exact LCg.CompEnd.intro F2 N2 _ (fun _ hp => hp) off2 trivial ⟨rfl, _, rfl⟩
    · intro ys hi D h tk F1 N1 off1
      dsimp only at F1 N1 ⊢
      (repeat' (first | (k_unfold; (try dsimp only)) | ((fail_if_success (with_reducible (first | show InvEndN _ _ _ _ _ _ _ | show KswEnd _ _ _ _ _ _ _ _ _ _ _ _ | show WdEnd _ _ _ _ _ _ _ _ _ _ _ | show SrcStep _ _ _ _ _ _ _ _ _ _ _ _ _ _ | show LCg.CompEnd _ _ _ _ _ _ _ _ _ _ _ _ _ _ | show wpAny _ _ (pyIter _) _ _ _ | show wpAny _ _ (call (Value.builtin "str.join") _ _) _ _ _ | show wpAny _ _ (call (Value.ref _) _ _) _ _ _ | show wpAny _ _ (exec (Stmt.While _ _ _ _) _) _ _ _ | show wpAny _ _ (binaryOp Operator.LShift _ _) _ _ _ | show wpAny _ _ (binaryOp Operator.Mult _ _) _ _ _ | show wpAny _ _ (binaryOp Operator.Pow _ _) _ _ _ | show wpAny _ _ (eval (Expr.ListComp _ _ _ _) _) _ _ _ | show wpAny _ _ (exec (Stmt.Assign _ (Expr.ListComp _ _ _ _) _) _) _ _ _ | show LCg.CompSrc _ _ _ _ _ _ _ _ _ _ _ _ _ _))); first | (k_end; wrow_close) | walk1 | (dsimp only; walk1) | (leave1; walk_say "STEP leave1"; try dsimp only) | fail "no step")))
      rename News h₀ L _ _ => N5
      exact LCg.CompEnd.intro (by assumption) N5 _ (fun _ hp => .tail _ hp) off' trivial ⟨rfl, _, rfl⟩
  · intro ys hi D h tk F1 N1 off1
    dsimp only at F1 N1 ⊢
    obtain ⟨u0, u1, u2, u3, u4, u5, rfl⟩ := ints6 (a := drawOf ns 0) (b := drawOf ns 1) (c := drawOf ns 2) (d := drawOf ns 3) (e := drawOf ns 4) (f := drawOf ns 5) hi
    refine' law2 hdef' C B (frAt F1 ?fr) X (fun q hq => N1 q ?mm) T hd hu hret
    case fr => repeat' (first | exact List.forall_mem_nil _ | refine List.forall_mem_cons.mpr ⟨rfl, ?_⟩)
    case mm =>
      rcases List.mem_cons.mp hq with rfl | hq
      · exact .head _
      · rw [List.mem_singleton.mp hq]; exact .tail _ (.tail _ (.tail _ (.head _)))

end
end Mine
end
section
theorem Mine.reset_D0 : True := by
  w_top off
  exact trivial
open PySem PySem.W PySem.NumText PyProof.Rows
set_option maxRecDepth 100000
set_option linter.unusedVariables false
namespace Mine
theorem fill_30 (w : World) (h : Heap) : Frag.In (Mine.Head.hd.heap_39 w.params) h → Challenge.rw_lo0013_01.row.prog = Challenge.rw_lo0013_01.row.prog := by
  k_fill
  intros; rfl
section
variable {w : World} {p : Program} {loose : List Str} {mean : ExcName → Option Value} {mg mb : Str → Option Value} {dp un : Nat} {gd : Option (List Code)} {cn : Str} {cs : Scope} {a : Addr} {ccd : Value} {cl : List (Str × Addr)} {outer : List Env} {A₀ : Around} {base h₀ : Heap} {L : Addr} {m : Str → Option Value} {news : List (Addr × Obj)} {s : Shared} {Q E : Value → Shared → Prop}

set_option maxHeartbeats 8000000 in
theorem law_holds : PySem.Challenge.rw_lo0013_01.Holds := by
  refine Mine.Head.hd ?_
  k_fill
  intro w s₀ s₁ mg mb G Y fa o pm cd doc dV kV ho hd hcd hD hmg hg args vals as hpre hlay hrd hwl hlo
  have KX := km_in_of Y
  km_tabs Y
  have X := (Ground.X G).1
  have V := (Ground.X G).2
  refine Ground.open G ?_
  intro T B D TE TW
  try (refine guard_noD D (by decide +kernel) ?_; clear D)
  km_lay T hmg ho hd cd
  clear hmg
  wrow_args hpre hlay hrd hwl hlo
  refine ⟨goodG_of Challenge.rw_lo0013_01.row.prog w hT9 (fun _ _ => rfl) ⟨?_, ?_⟩, enter_callC ?_⟩
  · refine ⟨.inl ⟨.bool true, .bool true, [], rfl, fun _ => rfl, .bool true, ?_, fun _ => ⟨List.nodup_nil, fun _ h => nomatch h⟩⟩, fun b o e => of_hideAll _ e, rfl, hg⟩
    exact postW_of (by wrow_shape) (by wtm_val) (by str_meet; first | done | w_fin)
  · exact ⟨⟨_, hT8 24 (.head _)⟩, trivial⟩
  w_top on
  refine post_C Challenge.rw_lo0013_01.row.prog w hT9 (fun _ _ => rfl) ?_
  have he := Dflts.none hD rfl
  subst he
  have he := Dflts.noKw hD
  subst he
  refine cellsN_C (by decide) ho (fd_plain hd) (Top.nolimit T) hcd rfl (kinds_of (by kinds_ok)) (by decide) fun h₁ tk₁ cells F N0 X0 => ?_
  cells_open X0
  clear hd
  kn_ghosts F T
  k_drop
  rename_i hoC _ _ _ _ _ _
  rename Fr _ _ _ _ => F1
  rename News _ _ _ _ => N1
  rename Frag.In _ _ => X1
  rename Top _ _ _ _ _ _ => T1
  rename Below _ _ _ _ => B1
  rename IntsAre _ _ => hI
  rename _ < _ => l0
  refine wpC_mono (law1 rfl lifted hI (by (first | lia | omega)) hoC codeHd l0 B1 (frAt F1 ?fr) X1 N1 T1 ?hd ?hu ?hret) (fun _ _ h => h) (fun _ _ h => h.elim)
  case fr => exact List.forall_mem_cons.mpr ⟨rfl, List.forall_mem_nil _⟩
  case hd => decide
  case hu => decide
  case hret =>
    intro h' tk' dr' m' c' F9 N9
    refine ⟨_, rfl, ?_, ⟨GrownAt.of N9 (.head _), trivial⟩⟩
    dsimp only
    k_end
    wrow_close

end
end Mine
end
set_option maxRecDepth 100000 in
theorem PySem.Challenge.cw_lo0013_01_holds : PySem.Challenge.rw_lo0013_01.Holds :=
  Mine.law_holds
