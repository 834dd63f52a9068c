import PyProof.Rows.All
import Wide.All
import OpenK.AllK
import Wide.FinOn
import PySem.Challenge.RW_nb0217_01
set_option Elab.async false
set_option rowWalk.seconds 0
section TxtH0
open PySem PySem.W PySem.Spec PySem.Calls PyProof.Rows
set_option Elab.async false
set_option maxRecDepth 100000
set_option maxHeartbeats 2000000
namespace Mine

/-- the caller of the claim stands on the stack -/
def Named (Γ : PySem.Ctx) : Prop := (Γ.code :: Γ.below.map (·.1)).any Code.isCaller = true
def NamedB (Γ : PySem.Ctx) : Prop := (Γ.below.map (·.1)).any Code.isCaller = true
theorem NamedB.on {Γ : PySem.Ctx} (h : NamedB Γ) : Named Γ := by
  unfold Named NamedB at *
  rw [List.any_cons, h, Bool.or_true]
theorem Named.enter {Γ : PySem.Ctx} (h : Named Γ) (c : Code) (hd : Option Value) (p : Pos) : NamedB (Γ.enter c hd p) := h
def wpC {α : Type} (M : Model) (A : Around) (t : Sem α) (Q : α → Shared → Prop) (E : Value → Shared → Prop) (s : Shared) : Prop :=
  ∀ Γ p, Γ.In A → Named Γ → Sem.wp M Γ t (fun a _ s' => Q a s') (fun e _ s' => E e s') p s
def codeC (M : Model) (A : Around) (c : Code) (R : Result → Shared → Prop) (s : Shared) : Prop :=
  ∀ Γ p, Γ.code = c → Γ.Below A → NamedB Γ → wpCode M Γ R p s
section
variable {α β : Type} {M : Model} {A : Around} {E : Value → Shared → Prop} {s : Shared} {env : Env}
theorem wpC_of {t : Sem α} {Q : α → Shared → Prop} (h : wpAny M A t Q E s) : wpC M A t Q E s := fun Γ p hΓ _ => h Γ p hΓ
theorem codeC_of {c : Code} {R : Result → Shared → Prop} (h : codeAny M A c R s) : codeC M A c R s := fun Γ p hc hΓ _ => h Γ p hc hΓ
theorem wpC_mono {t : Sem α} {Q Q' : α → Shared → Prop} {E' : Value → Shared → Prop} (h : wpC M A t Q E s) (hQ : ∀ a s, Q a s → Q' a s) (hE : ∀ e s, E e s → E' e s) : wpC M A t Q' E' s :=
  fun Γ p hΓ hn => Sem.wp_mono M Γ t (fun a _ s => hQ a s) (fun e _ s => hE e s) p s (h Γ p hΓ hn)
theorem codeC_mono {c : Code} {R R' : Result → Shared → Prop} (h : codeC M A c R s) (hR : ∀ r s, R r s → R' r s) : codeC M A c R' s := fun Γ p hc hΓ hn => wpCode_mono hR (h Γ p hc hΓ hn)
theorem wpC_bind {m : Sem α} {f : α → Sem β} {Q : β → Shared → Prop} (h : wpC M A m (fun a s' => wpC M A (f a) Q E s') E s) : wpC M A (m >>= f) Q E s := fun Γ p hΓ hn => by
  rw [Sem.wp_bind']
  exact Sem.wp_mono M Γ m (fun a p' s' h' => h' Γ p' hΓ hn) (fun _ _ _ h' => h') p s (h Γ p hΓ hn)
theorem wpC_pre {m : Sem α} {f : α → Sem β} {Q : β → Shared → Prop} (h : wpAny M A m (fun a s' => wpC M A (f a) Q E s') E s) : wpC M A (m >>= f) Q E s := wpC_bind (wpC_of h)
theorem wpC_pure {a : α} {Q : α → Shared → Prop} (h : Q a s) : wpC M A (pure a) Q E s := wpC_of (wpAny_pure h)
theorem wpC_holding {vs : List Value} {m : Sem α} {Q : α → Shared → Prop} (h : wpC M A m Q E s) : wpC M A (holding vs m) Q E s := fun Γ p hΓ hn => by rw [Sem.wp_holding]; exact h Γ p hΓ hn
theorem wpC_onRaise {m : Sem α} {k : Value → Sem Unit} {Q : α → Shared → Prop} (h : wpC M A m Q (fun e s' => wpAny M A (k e) (fun _ s'' => E e s'') E s') s) : wpC M A (m.onRaise k) Q E s := fun Γ p hΓ hn => by
  rw [Sem.wp_onRaise]
  exact Sem.wp_mono M Γ m (fun _ _ _ h' => h') (fun e p' s' h' => h' Γ p' hΓ) p s (h Γ p hΓ hn)
theorem wpC_attempt {m : Sem α} {Q : Except Value α → Shared → Prop} (h : wpC M A m (fun a => Q (.ok a)) (fun e => Q (.error e)) s) : wpC M A m.attempt Q E s := fun Γ p hΓ hn => by
  rw [Sem.wp_attempt]; exact h Γ p hΓ hn
theorem wpC_run {c : Code} {h : Option Value} {Q : Flow → Shared → Prop} (hc : codeC M (A.mark h) c (fun r s' => match r with | .ok f => Q f s' | .error e => E e s') s) (hnb : h ≠ some byPass := by intro x; cases x) : wpC M A (run c h) Q E s :=
  fun Γ p hΓ hn => by rw [Sem.wp_run]; exact hc _ p rfl (hΓ.enter c h p hnb) (hn.enter c h p)
theorem wpC_call {f : Value} {pos : List Value} {kw : List (Str × Value)} {Q : Value → Shared → Prop}
    (hc : codeC M A (.call f ⟨pos, kw⟩) (fun r s' => match r with | .ok (.ret v) => Q v s' | .ok _ => False | .error e => E e s') s) : wpC M A (call f pos kw) Q E s :=
  fun Γ p hΓ hn => by
    show Sem.wp M Γ (runValue _) _ _ p s
    rw [Sem.wp_runValue]; exact hc _ p rfl (hΓ.enter _ none p (by intro x; cases x)) (hn.enter _ none p)
theorem codeC_of_tree {c : Code} {R : Result → Shared → Prop}
    (h : wpC M (A.under c) (M.den c) (fun fin s' => match fin with | .done f => R (.ok f) s' | .again c' => c'.quiet = true ∧ codeC M A c' R s') (fun e s' => R (.error e) s') s) : codeC M A c R s := fun Γ p hc hΓ hn => by
  rw [wpCode_iff_wp, hc]
  refine Sem.wp_mono M Γ _ (fun fin p' s' h' => ?_) (fun _ _ _ h' => h') p s (h Γ p (hc ▸ hΓ.in) hn.on)
  cases fin with
  | done f => exact h'
  | again c' => exact ⟨h'.1, h'.2 (Γ.goto c') p' rfl (hΓ.goto c') hn⟩
/-- what the guard of the header asks -/
theorem wpC_stackAny {Q : Bool → Shared → Prop} (h : Q true s) : wpC M A (do return ((← stack).map (·.1)).any Code.isCaller) Q E s := fun Γ p _ hn => by
  show Q ((((Γ.code, p) :: Γ.below).map (·.1)).any Code.isCaller) s
  rw [List.map_cons, show (Γ.code :: Γ.below.map (·.1)).any Code.isCaller = true from hn]; exact h
theorem wpC_execs_cons {st : Stmt} {rest : List Stmt} {Q : Flow → Shared → Prop} (h : wpC M A (exec st env) (fun f s' => match f with | .next => wpC M A (execs rest env) Q E s' | f => Q f s') E s) :
    wpC M A (execs (st :: rest) env) Q E s := by
  rw [execs_cons]
  refine wpC_bind (wpC_mono h (fun f s' h' => ?_) fun _ _ h' => h')
  cases f <;> first | exact h' | exact wpC_pure h'
theorem wpC_Return_some {e : Expr} {pos : Pos} {Q : Flow → Shared → Prop} (h : wpC M A (eval e env) (fun v => Q (.ret v)) E s) : wpC M A (exec (.Return (some e) pos) env) Q E s := by
  rw [exec_Return_some]
  exact wpC_pre (wpAny_standAt (wpC_bind (wpC_mono h (fun v s' h' => wpC_pure h') fun _ _ h' => h')))
theorem wpC_Assign_Name {x : Str} {pos' pos : Pos} {value : Expr} {Q : Flow → Shared → Prop} (h : wpC M A (eval value env) (fun v s₁ => wpAny M A (storeName env x v) (fun _ => Q .next) E s₁) E s)
    (hs : swapsWith value (some (.Name x pos')) pos.line env = pure false := by rfl) : wpC M A (exec (.Assign [.Name x pos'] value pos) env) Q E s := by
  rw [exec_Assign_Name env x pos' value pos hs]
  exact wpC_pre (wpAny_standAt (wpC_bind (wpC_mono h (fun v s' h' => wpC_pre (wpAny_standAt (wpC_pre (wpAny_bindName (wpAny_mono h' (fun _ _ h2 => wpC_pure h2) fun _ _ h2 => h2))))) fun _ _ h' => h')))
theorem wpC_If {test : Expr} {body orelse : List Stmt} {pos : Pos} {Q : Flow → Shared → Prop}
    (h : wpC M A (isTrue test env (eval test env)) (fun b s₂ => if b then wpC M A (execs body env) Q E s₂ else wpC M A (execs orelse env) Q E s₂) E s) : wpC M A (exec (.If test body orelse pos) env) Q E s := fun Γ p hΓ hn => by
  simp only [exec_If, Sem.wp_bind', Sem.wp_cmd_standAt]
  refine Sem.wp_mono M Γ _ (fun b p₂ s₂ h₂ => ?_) (fun _ _ _ h' => h') _ _ (h Γ _ hΓ hn)
  cases b <;> exact h₂ Γ p₂ hΓ hn
theorem wpC_isTrue_Compare1 {l r : Expr} {op : CmpOp} {pos : Pos} {whole : Sem Value} {Q : Bool → Shared → Prop}
    (h : wpC M A (eval l env) (fun a s₁ => wpAny M A (eval r env) (fun b s₂ => wpAny M A (compareOp op a b) (fun c s₃ => wpAny M A (truthy c) Q E s₃) E s₂) E s₁) E s)
    (hm : behindInMarks op r = false := by with_unfolding_all rfl) : wpC M A (isTrue (.Compare l [op] [r] pos) env whole) Q E s := fun Γ p hΓ hn => by
  simp only [isTrue_Compare1, markedBehindIn_of_false hm, Sem.wp_bind', Sem.wp_holding, Sem.wp_cmd_standAt, Sem.wp_operate]
  exact Sem.wp_mono M Γ _ (fun a p₁ s₁ h₁ => Sem.wp_mono M Γ _ (fun b _ s₂ h₂ => Sem.wp_mono M Γ _ (fun c p₃ s₃ h₃ => h₃ Γ p₃ hΓ)
    (fun _ _ _ h' => h') _ _ (h₂ Γ _ hΓ)) (fun _ _ _ h' => h') _ _ (h₁ Γ p₁ hΓ)) (fun _ _ _ h' => h') _ _ (h Γ p hΓ hn)
theorem wpC_runOwn {c : Code} {h : Option Value} {Q : Flow → Shared → Prop}
    (hc : codeC M (A.mark h) c (fun r s' => match r with | .ok f => Q f s' | .error e => cameBackBy M A env E e s') s) (hnb : h ≠ some byPass := by intro x; cases x) : wpC M A (runOwn c env h) Q E s := by
  unfold runOwn
  exact wpC_onRaise (wpC_run hc hnb)
theorem wpC_For {target iter : Expr} {body orelse : List Stmt} {pos : Pos} {Q : Flow → Shared → Prop}
    (h : wpAny M A (eval iter env) (fun x s₁ => wpAny M A (pyIter x) (fun it s₂ => codeC M A (.forLoop target it body orelse env) (fun r s' => match r with | .ok f => Q f s' | .error e => cameBackBy M A env E e s') s₂) E s₁) E s)
    (hs : ∀ x, foldedSetIterable iter env x = pure x := by intro _; rfl) : wpC M A (exec (.For target iter body orelse pos) env) Q E s := by
  rw [exec_For]
  exact wpC_pre (wpAny_standAt (wpC_pre (wpAny_mono h (fun x s₁ h₁ => wpC_pre (wpAny_of_eq (hs x) (wpC_pre (wpAny_standAt (wpC_pre (wpAny_holding (wpAny_mono h₁ (fun it s₂ h₂ => wpC_runOwn h₂) fun _ _ h' => h'))))))) fun _ _ h' => h')))
end
section
variable {prog : Program} {w : World} {A : Around} {E : Value → Shared → Prop} {R : Result → Shared → Prop} {s : Shared} {env : Env}
theorem wpC_Try_except {body orelse : List Stmt} {h₀ : ExceptHandler} {hs : List ExceptHandler} {pos : Pos} {Q : Flow → Shared → Prop}
    (h : wpC (model prog w) A (execs body env) (fun f s₁ => match f with | .next => wpAny (model prog w) A (execs orelse env) Q E s₁ | f => Q f s₁)
      (fun e s₁ => wpAny (model prog w) A (noteFrame e env) (fun _ s₂ => wpAny (model prog w) A (setFlight e none) (fun _ s₃ => wpAny (model prog w) A (handleBy e env (h₀ :: hs)) Q E s₃) E s₂) E s₁) s) :
    wpC (model prog w) A (exec (.Try body (h₀ :: hs) orelse [] pos) env) Q E s := by
  rw [arm_exec_Try]
  refine wpC_pre (wpAny_standAt ?_)
  unfold tryStmt
  simp only [List.isEmpty_nil, if_true, List.isEmpty_cons, Bool.false_and, Bool.false_eq_true, if_false]
  refine wpC_bind (wpC_attempt (wpC_mono h (fun f s₁ h₁ => ?_) fun e s₁ h₁ => ?_))
  · cases f <;> first | exact wpC_of h₁ | exact wpC_pure h₁
  · exact wpC_of (wpAny_bind (wpAny_mono h₁ (fun _ _ h₂ => wpAny_bind h₂) fun _ _ x => x))
theorem codeC_func {body : List Stmt}
    (h : wpC (model prog w) (A.deeper env) (execs body env) (fun f s' => R (.ok (.ret (match f with | .ret v => v | _ => .none))) s')
      (fun e s' => wpAny (model prog w) (A.deeper env) (leaving env e) (fun _ s'' => R (.error e) s'') (fun e' s'' => R (.error e') s'') s') s) :
    codeC (model prog w) A (.func body env) R s := by
  refine codeC_of_tree ?_
  show wpC _ (A.deeper env) (do point; match ← (execs body env).onRaise (leaving env) with | .ret v => ret v | _ => ret .none) _ _ s
  refine wpC_pre (wpAny_point (wpC_bind (wpC_onRaise (wpC_mono h (fun f s' h' => ?_) fun _ _ h' => h'))))
  cases f <;> exact wpC_pure h'
theorem codeC_call_function {a : Addr} {args : Args} {o : Obj} {fd : FuncData} {body : List Stmt} (hroom : A.depth < recursionLimit) (ho : s.heap.get? a = some o)
    (hd' : o.data = .func fd) (hco : fd.scope.isCoroutine = false) (hgen : fd.scope.isGenerator = false) (hbody : fd.body = .stmts body) (hcd : s.heap.CodeRec fd.code fd.qualname)
    (h : wpAny (model prog w) A.in1 (bindArgs fd args) (fun binds s₁ =>
      wpAny (model prog w) A.in1 (newFunctionEnv fd.scope fd.globals fd.closure binds (fd.qualname ++ ".<locals>.") (some a) fd.code none fd.builtins)
        (fun env s₂ => s₂.heap.NoLimit ∧ codeC (model prog w) A (.func body env) R s₂) (fun e s' => R (.error e) s') s₁) (fun e s' => R (.error e) s') s) :
    codeC (model prog w) A (.call (.ref a) args) R s := by
  refine codeC_of_tree ?_
  show wpC _ A.in1 (callAny (.ref a) args) _ _ s
  simp only [callAny]
  refine wpC_pre (wpAny_load ho ?_)
  obtain ⟨c, oc, vs, tq, hc, hoc, hdc, hq⟩ := hcd
  simp only [hd', callFunction, hco, hgen, hbody, hc]
  rw [hc] at h
  refine wpC_pre (m := field (.ref c) 1) (wpAny_field hoc hdc hq (wpC_pre (wpAny_pure ?_)))
  exact wpC_pre (wpAny_mono h (fun binds s₁ h₁ => wpC_pre (wpAny_mono h₁ (fun env s₂ h₂ => wpC_pre (wpAny_enterFrame h₂.1 hroom
    (wpC_pure (And.intro rfl h₂.2)))) fun _ _ h' => h')) fun _ _ h' => h')
end
end Mine

end TxtH0
section TxtH1
open PySem PySem.W PySem.Spec PySem.Calls PyProof.Rows
set_option Elab.async false
set_option maxRecDepth 100000
set_option maxHeartbeats 2000000
namespace Mine

def guardT {α : Type} (d t : Sem α) : Sem α := do
  let st ← stack
  if (st.map (·.1)).any Code.isCaller then t else d
theorem wpAny_guard {α : Type} {M : Model} {A : Around} {d t : Sem α} {Q : α → Shared → Prop} {E : Value → Shared → Prop} {s : Shared} (h : wpC M A t Q E s) (hd : wpAny M A d Q E s) : wpAny M A (guardT d t) Q E s := fun Γ p hΓ => by
  show Sem.wp M Γ (if (((Γ.code, p) :: Γ.below).map (·.1)).any Code.isCaller then t else d) _ _ p s
  by_cases q : (((Γ.code, p) :: Γ.below).map (·.1)).any Code.isCaller = true
  · rw [if_pos q]; exact h Γ p hΓ q
  · rw [if_neg q]; exact hd Γ p hΓ
theorem wpC_guard {α : Type} {M : Model} {A : Around} {d t : Sem α} {Q : α → Shared → Prop} {E : Value → Shared → Prop} {s : Shared} (h : wpAny M A (guardT d t) Q E s) : wpC M A t Q E s := fun Γ p hΓ hn => by
  have h2 := h Γ p hΓ
  change Sem.wp M Γ (if (((Γ.code, p) :: Γ.below).map (·.1)).any Code.isCaller then t else d) _ _ p s at h2
  rw [if_pos (show (((Γ.code, p) :: Γ.below).map (·.1)).any Code.isCaller = true from hn)] at h2
  exact h2
theorem wpAny_guard_else {α : Type} {M : Model} {A : Around} {d t : Sem α} {Q : α → Shared → Prop} {E : Value → Shared → Prop} {s : Shared} (h : wpAny M A (guardT d t) Q E s) :
    ∀ Γ p, Γ.In A → ¬ Named Γ → Sem.wp M Γ d (fun a _ s' => Q a s') (fun e _ s' => E e s') p s := fun Γ p hΓ hn => by
  have h2 := h Γ p hΓ
  change Sem.wp M Γ (if (((Γ.code, p) :: Γ.below).map (·.1)).any Code.isCaller then t else d) _ _ p s at h2
  rw [if_neg (show ¬ (((Γ.code, p) :: Γ.below).map (·.1)).any Code.isCaller = true from hn)] at h2
  exact h2
theorem sched_guard {prog : Program} {w : World} {s s' : Shared} {d t : Sem Fin} {o : Outcome} {n : Nat} (hr : s.asleep)
    (h : schedN (denote table) prog w n (.single s ⟨guardT d t, .builtin "claim.caller" {}, default, []⟩) = .halted o s') :
    ∃ m, schedN (denote table) prog w m (.single s ⟨t, .builtin "claim.caller" {}, default, []⟩) = .halted o s' := by
  have e1 : step (denote table) prog w s ⟨guardT d t, .builtin "claim.caller" {}, default, []⟩ = .go s ⟨t, .builtin "claim.caller" {}, default, []⟩ := by
    obtain ⟨a, b, c, d, e⟩ := s
    rfl
  cases n with
  | zero => cases h
  | succ n =>
    rcases sstep_single (denote table) prog w s ⟨guardT d t, .builtin "claim.caller" {}, default, []⟩ rfl hr with e | e
    · rw [e1] at e
      simp only [schedN, e] at h
      exact ⟨n, h⟩
    · rw [e1] at e; cases e
end Mine

end TxtH1
section TxtH2
open PySem PySem.W PySem.Spec PySem.Calls PyProof.Rows
set_option Elab.async false
set_option maxRecDepth 100000
set_option maxHeartbeats 2000000
namespace Mine

theorem holdsOpenBy_guard {c : ClaimW} {tree : List Value → Sem Fin} {d : Sem Fin} {defs keeps : List Str} {writes : Bool} (hz : ∀ w s s₀, AfterRun (opening c.prog) w s → fenceModules? c.prog s = some s₀ → s₀.asleep)
    (h : c.HoldsOpenBy (fun vs => ⟨guardT d (tree vs), .builtin "claim.caller" {}, default, []⟩) defs keeps writes) : c.HoldsOpenBy (fun vs => ⟨tree vs, .builtin "claim.caller" {}, default, []⟩) defs keeps writes := by
  obtain ⟨h1, h2, h3⟩ := h
  refine ⟨h1, h2, fun w => ⟨(h3 w).1, fun s hs => ?_⟩⟩
  obtain ⟨s₀, e1, e2, s₁, e3, e4, e5, e6, cf⟩ := (h3 w).2 s hs
  refine ⟨s₀, e1, e2, s₁, e3, e4, e5, e6, fun args a1 a2 ord a3 => ?_⟩
  obtain ⟨vs, s₂, l, n, o, s', r, rest⟩ := cf args a1 a2 ord a3
  have z1 : s₁.asleep := Shared.asleep_of_life e3.2.1 (hz w s s₀ hs e1)
  have z2 : s₂.asleep := Shared.asleep_of_life (layAllW_rest _ _ _ l).2.2.2 z1
  obtain ⟨m, hm⟩ := sched_guard z2 r
  exact ⟨vs, s₂, l, m, o, s', hm, rest⟩
theorem PySem.W.holds_open {r : OpenRow} {q : Program} {loose : List Str} {Xt : Shared → Bool} {XP : (Str → Option Value) → Heap → Prop} {α : Type} {Yf : Shared → α} {Ya : World → α} {YP : World → Heap → Prop} {d : DefRec} {kwd : List (Str × Expr)} {N : Nat}
    (left : LeftO r.prog q loose Xt Yf Ya N) (hY : ∀ w s, Yf s = Ya w → YP w s.heap) (hYk : ∀ w h h', YP w h → (∀ b o, h.get? b = some o → h'.get? b = some o) → YP w h')
    (hX : ∀ s, Xt s = true → XP (s.heap.nsMap mainGlobals) s.heap) (hXk : ∀ mg h h', XP mg h → (∀ b o, h.get? b = some o → h'.get? b = some o) → XP mg h')
    (hdef : defOf q r.name = some (d, kwd)) (hp : r.prog.theDef r.name = some (d.params, d.body, d.scope)) (hk : kwWritten? d.params.kwonlyargs d.params.kw_defaults = some kwd) (hRf : ∀ s, Xt s = true → RecFacts r.records s.heap) (hwr : (!r.writes || r.records.isEmpty) = true)
    (k1 : r.wellSaid = true) (ok : (chainsOk q && opensWell r.prog && (frees r.toRowW && r.within.isEmpty)) = true) (hb : r.prog.bare) (hw : r.toRowW.promised)
    (call : WalkO q loose XP YP r.toRowW d kwd fun f vs => guardT (pure (.bool true)) (PySem.call f vs)) : r.Holds := by
  have hch : chainsOk q = true := (Bool.and_eq_true_iff.mp (Bool.and_eq_true_iff.mp ok).1).1
  refine ⟨k1, hw, holdsOpenBy_guard (tree := fun vs => do match ← nsGet mainNs r.name with
      | some f => do ret (← PySem.call f vs)
      | none => unsupported "claim.caller:no-such-global") (d := ret (.bool true)) (fun w s s₀ hs e => ?_)
    (open_anyG (r := r.toRowW) (run := fun f vs => guardT (pure (.bool true)) (PySem.call f vs)) left hY hYk hX hXk hRf hwr ok hb hw ?_ (fun w s hg G n hn => ?_) fun w s₀ s₁ mg mb G Y args vs as hpre hlay L low => ?_)⟩
  · obtain ⟨s₀', e', _, s₁, T, z, _⟩ := (left.behind hX hch w).2 s hs
    obtain rfl : s₀ = s₀' := Option.some.inj (e.symm.trans e')
    exact Shared.asleep_of_life T.2.1.symm z
  · intro vs w s mg f Q E hg hf h
    have h1 := wpC_guard h
    have h2 : wpC (model r.prog w) callerA (do match ← nsGet mainNs r.name with
      | some f => do ret (← PySem.call f vs)
      | none => unsupported "claim.caller:no-such-global") Q E s := wpC_pre (wpAny_nsGet hg (by rw [hf]; exact wpC_bind (wpC_mono h1 (fun _ _ x => wpC_pure x) fun _ _ x => x)))
    intro Γ p hΓ
    by_cases q : (((Γ.code, p) :: Γ.below).map (·.1)).any Code.isCaller = true
    · show Sem.wp _ Γ (if (((Γ.code, p) :: Γ.below).map (·.1)).any Code.isCaller then _ else _) _ _ p s
      rw [if_pos q]
      exact h2 Γ p hΓ q
    · show Sem.wp _ Γ (if (((Γ.code, p) :: Γ.below).map (·.1)).any Code.isCaller then _ else _) _ _ p s
      rw [if_neg q]
      exact wpAny_guard_else h Γ p hΓ q
  · obtain rfl : n = r.name := by split at hn <;> simp_all
    exact pinned_of_view hg G hdef hp hk
  · obtain ⟨a, o, pm, cd, doc, dV, kV, h1, h2, h3, h4, h5⟩ := G.fn hdef
    exact ⟨.ref a, h1, call w s₀ s₁ mg mb G Y a o pm cd doc dV kV h2 h3 h4 h5 (defOf_name hdef ▸ h1) L.gens args vs as hpre hlay L.reads L.well (L.low low)⟩
open_top hd for PySem.Challenge.rw_nb0217_01
end Mine

end TxtH2
section TxtW2
theorem Mine.Off.offW2 : True := by
  w_top off
  trivial
open PySem PySem.W PySem.Spec PySem.Calls PyProof.Rows
set_option Elab.async false
set_option maxRecDepth 100000
set_option maxHeartbeats 2000000
namespace Mine

set_option maxHeartbeats 8000000
section
variable {prog : Program} {w : World} {A : Around} {E : Value → Shared → Prop} {R : Result → Shared → Prop} {s : Shared}
theorem codeC_builtin {id : String} {args : Args} {b : Builtin} (hb : entryFor table id = some b)
    (h : wpC (model prog w) (A.under (.builtin id args)) (b args)
      (fun fin s' => match fin with | .done f => R (.ok f) s' | .again c' => c'.quiet = true ∧ codeC (model prog w) A c' R s') (fun e s' => R (.error e) s') s) :
    codeC (model prog w) A (.builtin id args) R s := by
  refine codeC_of_tree ?_
  show wpC _ _ (match entryFor table id with | some b => b args | none => unsupported ((withoutEnding? id "#data").getD id)) _ _ s
  rw [hb]; exact h
theorem codeC_call_builtin {id : String} {args : Args} {b : Builtin} (hq : plainId id = true) (hb : entryFor table id = some b) (hc : checkBuiltinCall id args = pure ())
    (h : wpC (model prog w) A.in1 (b args) (fun fin s' => match fin with | .done f => R (.ok f) s' | .again c' => c'.quiet = true ∧ codeC (model prog w) A c' R s') (fun e s' => R (.error e) s') s) :
    codeC (model prog w) A (.call (.builtin id) args) R s := by
  refine codeC_of_tree ?_
  show wpC _ A.in1 (do checkBuiltinCall id args; again (.builtin id args)) _ _ s
  refine wpC_pre (wpAny_of_eq hc (wpC_pure (And.intro (plainId_quiet hq args) (codeC_builtin hb ?_))))
  rw [Around.under_plainId hq args]; exact h
theorem wpC_callType_raises {T newId : String} {args : List Value} {Q : Value → Shared → Prop} (ft : TypeCalled T newId "object.__init__") (hct : checkTypeCall T ⟨args, []⟩ = pure ())
    (h : codeC (model prog w) A.in1 (.call (.builtin newId) ⟨.type T :: args, []⟩) (fun r s' => ∃ e, r = .error e ∧ E e s') s) :
    wpC (model prog w) A (call (.type T) args) Q E s := by
  obtain ⟨c, tl, hmro⟩ := ft.mro
  have hmade := ft.made
  refine wpC_call (codeC_of_tree ?_)
  show wpC _ _ (callAny (.type T) _) _ _ _
  refine wpC_pure ⟨Code.quiet_builtin _ (by decide +kernel), codeC_builtin PySem.F.entry_type_call ?_⟩
  rw [Around.under_plain (weight_type_call_type T args []) (units_type_call_type T args [])]
  have h1 := ft.notType
  have h2 := ft.canCreate
  unfold Builtin.«type.__call__»
  simp only [h1, h2, hct, hmro, hmade, Bool.false_eq_true, if_false, pure_bind, List.isEmpty_cons]
  refine wpC_bind (wpC_holding (wpC_call (codeC_mono h fun r s' hr => ?_)))
  obtain ⟨e, rfl, he⟩ := hr
  exact he
theorem intNew_tree (u : Tok) : Builtin.«int.__new__» ⟨[.type "int", .str (Str.ofString "") u], []⟩ = ((int_private% "intFromText") (.str (Str.ofString "") u) [] 10 >>= fun v => ret v) := by
  kernel_rfl
theorem intText_tree (u : Tok) : (int_private% "intFromText") (.str (Str.ofString "") u) [] 10 = (rule "int.__new__.invalid-literal" >>= fun _ => pyRepr (.str (Str.ofString "") u) >>= fun shown =>
      mkStr (((s!"invalid literal for int() with base {(10 : Nat)}: " : String) ++ ⟨shown.cps.extract 0 200⟩ : Str)) >>= fun m => newExc (.type "ValueError") [m] >>= fun r => markTheRefusal ["int.__new__"] r >>= fun _ => (raiseNew r : Sem Value)) := by
  kernel_rfl
theorem wpC_mark {own : List String} {e : Value} {Q : Unit → Shared → Prop} (h : Q () s) : wpC (model prog w) A (markTheRefusal own e) Q E s := fun Γ p hΓ hn => by
  have q : pythonCodeMadeTheCall own (((Γ.code, p) :: Γ.below).map (·.1)) = false := by
    unfold pythonCodeMadeTheCall
    exact (congrArg (fun b => (!b && _ && _)) (show _ = true from hn)).trans rfl
  show Sem.wp _ Γ (if pythonCodeMadeTheCall own (((Γ.code, p) :: Γ.below).map (·.1)) then _ else _) _ _ p s
  rw [q]
  exact h
theorem int_raises {u : Tok} {Q : Value → Shared → Prop} (hh : A.handled = none)
    (h : ∀ h' tk e, Heap.NewExc s.heap h' e "ValueError" → E (.ref e) { s with heap := h', toks := tk }) : wpC (model prog w) A (call (.type "int") [.str (Str.ofString "") u]) Q E s := by
  refine wpC_callType_raises PySem.F.called_int (PySem.F.typeCall_int_1 _) (codeC_call_builtin PySem.F.called_int.plain PySem.F.entry_int_new (PySem.F.newCall_int_1 _) ?_)
  rw [intNew_tree, intText_tree]
  refine wpC_bind (wpC_pre (wpAny_rule (wpC_pre (wpAny_pyRepr_str ?_))))
  refine wpC_pre (wpAny_mkStr ?_ ?_)
  · refine wpC_pre (wpAny_newExc_plain plainExc_ValueError fun h' e hx => ?_)
    refine wpC_bind (wpC_mark (wpC_of (wpAny_raiseNew_none hh ⟨_, rfl, ?_⟩)))
    exact h _ _ _ hx.newExc
  · decide +kernel
end
end Mine

end TxtW2
section TxtP0
theorem Mine.Off.offP0 : True := by
  w_top off
  trivial
open PySem PySem.W PyProof.Rows
namespace Mine
theorem nat_land_high (x k : Nat) : x &&& (x / 2 ^ k * 2 ^ k) = x / 2 ^ k * 2 ^ k := by
  apply Nat.eq_of_testBit_eq
  intro i
  rw [Nat.testBit_and, Nat.mul_comm, Nat.testBit_two_pow_mul, Nat.testBit_div_two_pow]
  by_cases h : k ≤ i
  · simp [h]
  · simp [h]
theorem xor_low {x : Int} (hx : 0 ≤ x) (k : Nat) : Builtin.bitXor x (x / 2 ^ k * 2 ^ k) = x % 2 ^ k := by
  obtain ⟨n, rfl⟩ := Int.eq_ofNat_of_zero_le hx
  have e : ((n : Int) / 2 ^ k * 2 ^ k) = ((n / 2 ^ k * 2 ^ k : Nat) : Int) := by
    rw [Int.natCast_mul, Int.natCast_ediv, Int.natCast_pow]; rfl
  have e2 : Builtin.bitAnd (n : Int) ((n / 2 ^ k * 2 ^ k : Nat) : Int) = ((n / 2 ^ k * 2 ^ k : Nat) : Int) := by
    show ((Nat.land n (n / 2 ^ k * 2 ^ k) : Nat) : Int) = _
    have := nat_land_high n k
    exact congrArg Nat.cast this
  rw [bitXor_and, e, e2]
  have e3 : ((n : Int) % 2 ^ k) = ((n % 2 ^ k : Nat) : Int) := by
    rw [Int.natCast_emod, Int.natCast_pow]; rfl
  rw [e3]
  have := Nat.div_add_mod n (2 ^ k)
  rw [Nat.mul_comm] at this
  (first | lia | omega)
end Mine

end TxtP0
section TxtP1
theorem Mine.Off.offP1 : True := by
  w_top off
  trivial
open PySem PySem.W PyProof.Rows
namespace Mine
/-- the digits that inner stores: k of them, of n bits -/
def digs (n : Nat) : Nat → Int → Nat → List Int
  | 0, x, _ => [x]
  | m + 1, x, k => if k ≤ 1 then [x] else digs n m (x % 2 ^ (k / 2 * n)) (k / 2) ++ digs n m (x / 2 ^ (k / 2 * n)) (k - k / 2)
/-- what the digits stand for -/
def val (n : Nat) : List Int → Int
  | [] => 0
  | d :: t => d + 2 ^ n * val n t
theorem val_append (n : Nat) (a b : List Int) : val n (a ++ b) = val n a + 2 ^ (a.length * n) * val n b := by
  induction a with
  | nil => simp [val]
  | cons d t ih =>
    have e : (t.length + 1) * n = n + t.length * n := by rw [Nat.succ_mul, Nat.add_comm]
    simp only [List.cons_append, val, ih, List.length_cons, e, Int.pow_add, Int.mul_add, Int.mul_assoc, Int.add_assoc]
theorem digs_length (n m : Nat) : ∀ (x : Int) (k : Nat), 1 ≤ k → k ≤ m + 1 → (digs n m x k).length = k := by
  induction m with
  | zero => intro x k h1 h2; simp only [digs, List.length_cons, List.length_nil]; (first | lia | omega)
  | succ m ih =>
    intro x k h1 h2
    unfold digs
    by_cases hk : k ≤ 1
    · rw [if_pos hk]; simp only [List.length_cons, List.length_nil]; (first | lia | omega)
    · rw [if_neg hk, List.length_append, ih _ _ (by (first | lia | omega)) (by (first | lia | omega)), ih _ _ (by (first | lia | omega)) (by (first | lia | omega))]; (first | lia | omega)
theorem digs_val (n m : Nat) : ∀ (x : Int) (k : Nat), 1 ≤ k → k ≤ m + 1 → val n (digs n m x k) = x := by
  induction m with
  | zero => intro x k h1 h2; simp [digs, val]
  | succ m ih =>
    intro x k h1 h2
    unfold digs
    by_cases hk : k ≤ 1
    · rw [if_pos hk]; simp [val]
    · rw [if_neg hk, val_append, ih _ _ (by (first | lia | omega)) (by (first | lia | omega)), ih _ _ (by (first | lia | omega)) (by (first | lia | omega)), digs_length _ _ _ _ (by (first | lia | omega)) (by (first | lia | omega))]
      exact Int.emod_add_mul_ediv x (2 ^ (k / 2 * n))
theorem pow_pos' (k : Nat) : (0 : Int) < 2 ^ k := Int.pow_pos (by decide)
theorem digs_bound (n m : Nat) : ∀ (x : Int) (k : Nat), 0 ≤ x → ∀ d ∈ digs n m x k, 0 ≤ d ∧ d ≤ x := by
  induction m with
  | zero => intro x k h d hd; simp only [digs, List.mem_singleton] at hd; (first | lia | omega)
  | succ m ih =>
    intro x k h d hd
    unfold digs at hd
    by_cases hk : k ≤ 1
    · rw [if_pos hk, List.mem_singleton] at hd; (first | lia | omega)
    · rw [if_neg hk, List.mem_append] at hd
      have p := pow_pos' (k / 2 * n)
      rcases hd with hd | hd
      · have := ih _ _ (Int.emod_nonneg x (Int.ne_of_gt p)) d hd
        have l : x % 2 ^ (k / 2 * n) ≤ x := by
          have e := Int.mul_ediv_add_emod x (2 ^ (k / 2 * n))
          have z := Int.mul_nonneg (Int.le_of_lt p) (Int.ediv_nonneg h (Int.le_of_lt p))
          (first | lia | omega)
        (first | lia | omega)
      · have := ih _ _ (Int.ediv_nonneg h (Int.le_of_lt p)) d hd
        have l : x / 2 ^ (k / 2 * n) ≤ x := Int.ediv_le_self _ h
        (first | lia | omega)
theorem splice_take {ds lo : List Int} {l h : Nat} (hr : l + h ≤ ds.length) (hlo : lo.length = h) : (ds.take l ++ lo ++ ds.drop (l + h)).take (l + h) = ds.take l ++ lo := by
  have e : (ds.take l ++ lo).length = l + h := by rw [List.length_append, List.length_take, hlo]; (first | lia | omega)
  rw [List.take_append_of_le_length (by (first | lia | omega)), List.take_of_length_le (by (first | lia | omega))]
theorem splice_drop {ds lo : List Int} {l h r : Nat} (hl : l + h ≤ r) (hr : r ≤ ds.length) (hlo : lo.length = h) : (ds.take l ++ lo ++ ds.drop (l + h)).drop r = ds.drop r := by
  have e : (ds.take l ++ lo).length = l + h := by rw [List.length_append, List.length_take, hlo]; (first | lia | omega)
  rw [List.drop_append, List.drop_of_length_le (by (first | lia | omega)), List.nil_append, e, List.drop_drop]
  congr 1; (first | lia | omega)
theorem splice_set {ds : List Int} {l : Nat} {x : Int} (hl : l < ds.length) : ds.set l x = ds.take l ++ [x] ++ ds.drop (l + 1) := by
  rw [List.set_eq_take_append_cons_drop, if_pos hl, List.append_assoc]; rfl
theorem splice_all {n k l r : Nat} {x : Int} {ds : List Int} (hl : l < r) (h1 : l + 1 ≠ r) (hr : r ≤ ds.length) (hk : r - l ≤ k + 1) :
    (ds.take l ++ digs n k (x % 2 ^ ((r - l) / 2 * n)) ((r - l) / 2) ++ ds.drop (l + (r - l) / 2)).take (l + (r - l) / 2) ++ digs n k (x / 2 ^ ((r - l) / 2 * n)) (r - (l + (r - l) / 2)) ++
      (ds.take l ++ digs n k (x % 2 ^ ((r - l) / 2 * n)) ((r - l) / 2) ++ ds.drop (l + (r - l) / 2)).drop r = ds.take l ++ digs n (k + 1) x (r - l) ++ ds.drop r := by
  have e1 := digs_length n k (x % 2 ^ ((r - l) / 2 * n)) ((r - l) / 2) (by (first | lia | omega)) (by (first | lia | omega))
  rw [splice_take (by (first | lia | omega)) e1, splice_drop (by (first | lia | omega)) hr e1]
  conv => rhs; unfold digs
  rw [if_neg (by (first | lia | omega)), show r - (l + (r - l) / 2) = r - l - (r - l) / 2 by (first | lia | omega)]
  simp only [List.append_assoc]
theorem splice_len {n k l h : Nat} {x : Int} {ds : List Int} (h1 : 1 ≤ h) (hk : h ≤ k + 1) (hr : l + h ≤ ds.length) : (ds.take l ++ digs n k x h ++ ds.drop (l + h)).length = ds.length := by
  rw [List.length_append, List.length_append, List.length_take, List.length_drop, digs_length n k x h h1 hk]; (first | lia | omega)
theorem cnt_eq {b n : Nat} (hn : 0 < n) : ((b : Int) + (n : Int) - 1).fdiv (n : Int) = (((b + n - 1) / n : Nat) : Int) := by
  rw [Int.fdiv_eq_ediv_of_nonneg _ (by (first | lia | omega)), Int.natCast_ediv]
  congr 1; (first | lia | omega)
theorem cnt_le {b n : Nat} (hb : b ≤ 60) (hn : 0 < n) : (b + n - 1) / n ≤ 60 := Nat.div_le_of_le_mul (by (first | lia | omega))
theorem cnt_pos {b n : Nat} (hb : 0 < b) (hn : 0 < n) : 0 < (b + n - 1) / n := Nat.div_pos (by (first | lia | omega)) hn
theorem cnt_zero {n : Nat} (hn : 0 < n) : (0 + n - 1) / n = 0 := Nat.div_eq_of_lt (by (first | lia | omega))
theorem bits_le {a : Int} {m : Nat} (h0 : 0 ≤ a) (h : a < 2 ^ m) : Builtin.Int.intBits a ≤ m := intBits_le_iff.mpr (by
  have : ((2 ^ m : Nat) : Int) = 2 ^ m := by rw [Int.natCast_pow]; rfl
  (first | lia | omega))
theorem bits_pos {a : Int} (h : a ≠ 0) : 0 < Builtin.Int.intBits a := by
  unfold Builtin.Int.intBits; rw [if_neg (by simpa using h)]; (first | lia | omega)
theorem bits_zero : Builtin.Int.intBits 0 = 0 := rfl
theorem val_nonneg {n : Nat} : ∀ {l : List Int}, (∀ d ∈ l, 0 ≤ d) → 0 ≤ val n l
  | [], _ => Int.le_refl _
  | d :: t, h => by
    have h1 := h d (.head _)
    have h2 := Int.mul_nonneg (Int.le_of_lt (pow_pos' n)) (val_nonneg (n := n) fun x hx => h x (.tail _ hx))
    simp only [val]; (first | lia | omega)
/-- the part of the digits from l, k of them -/
def part (ds : List Int) (l k : Nat) : List Int := (ds.drop l).take k
theorem part_one {ds : List Int} {l : Nat} (n : Nat) (hl : l < ds.length) : val n (part ds l 1) = ds.getD l 0 := by
  unfold part
  rw [List.drop_eq_getElem_cons hl, List.take_succ_cons, List.take_zero]
  simp only [val, Int.mul_zero, Int.add_zero]
  simp [hl]
theorem part_split (ds : List Int) (l h k : Nat) (hk : h ≤ k) : part ds l k = part ds l h ++ part ds (l + h) (k - h) := by
  unfold part
  rw [← List.drop_drop, ← List.take_add]
  congr 1; (first | lia | omega)
theorem part_length {ds : List Int} {l k : Nat} (h : l + k ≤ ds.length) : (part ds l k).length = k := by
  unfold part; rw [List.length_take, List.length_drop]; (first | lia | omega)
theorem part_mem {ds : List Int} {l k : Nat} {d : Int} (h : d ∈ part ds l k) : d ∈ ds := List.mem_of_mem_drop (List.mem_of_mem_take h)
theorem part_all (ds : List Int) : part ds 0 ds.length = ds := by unfold part; simp
theorem part_val {n l r : Nat} {ds : List Int} (hl : l < r) (hr : r ≤ ds.length) :
    val n (part ds l (r - l)) = val n (part ds l ((r - l) / 2)) + val n (part ds (l + (r - l) / 2) (r - (l + (r - l) / 2))) * 2 ^ ((r - l) / 2 * n) := by
  rw [part_split ds l ((r - l) / 2) (r - l) (by (first | lia | omega)), val_append, part_length (by (first | lia | omega)), Int.mul_comm (2 ^ _)]
  congr 4; (first | lia | omega)
theorem part_bounds {n l r : Nat} {ds : List Int} (h0 : ∀ d ∈ ds, 0 ≤ d) (hl : l < r) (hr : r ≤ ds.length) (h : val n (part ds l (r - l)) < 2 ^ 60) :
    0 ≤ val n (part ds l ((r - l) / 2)) ∧ val n (part ds l ((r - l) / 2)) < 2 ^ 60 ∧ 0 ≤ val n (part ds (l + (r - l) / 2) (r - (l + (r - l) / 2))) ∧ val n (part ds (l + (r - l) / 2) (r - (l + (r - l) / 2))) < 2 ^ 60 := by
  have e := part_val (n := n) hl hr
  have a := val_nonneg (n := n) (l := part ds l ((r - l) / 2)) fun d hd => h0 d (part_mem hd)
  have b := val_nonneg (n := n) (l := part ds (l + (r - l) / 2) (r - (l + (r - l) / 2))) fun d hd => h0 d (part_mem hd)
  generalize val n (part ds l ((r - l) / 2)) = x at *
  generalize val n (part ds (l + (r - l) / 2) (r - (l + (r - l) / 2))) = y at *
  have p : 1 ≤ (2 : Int) ^ ((r - l) / 2 * n) := by have := pow_pos' ((r - l) / 2 * n); (first | lia | omega)
  have q : y * 1 ≤ y * 2 ^ ((r - l) / 2 * n) := Int.mul_le_mul_of_nonneg_left p b
  (first | lia | omega)
/-- the loop of _divmod_pos -/
def dstep (n : Nat) (b : Int) (st : List Int × Int) (d : Int) : List Int × Int := (st.1 ++ [(st.2 * 2 ^ n + d) / b], (st.2 * 2 ^ n + d) % b)
def dloop (n : Nat) (b : Int) (ds : List Int) : List Int × Int := ds.foldl (dstep n b) ([], 0)
theorem dloop_append (n : Nat) (b : Int) (ds : List Int) (d : Int) : dloop n b (ds ++ [d]) = dstep n b (dloop n b ds) d := by
  unfold dloop; rw [List.foldl_append]; rfl
theorem dloop_rest {n : Nat} {b : Int} (hb : 0 < b) (ds : List Int) : 0 ≤ (dloop n b ds.reverse).2 ∧ (dloop n b ds.reverse).2 < b := by
  cases ds with
  | nil => exact ⟨Int.le_refl _, hb⟩
  | cons d t =>
    rw [List.reverse_cons, dloop_append]
    exact ⟨Int.emod_nonneg _ (Int.ne_of_gt hb), Int.emod_lt_of_pos _ hb⟩
theorem dloop_rest' {n : Nat} {b : Int} (hb : 0 < b) (ds : List Int) : 0 ≤ (dloop n b ds).2 ∧ (dloop n b ds).2 < b := by
  have := dloop_rest (n := n) hb ds.reverse
  rwa [List.reverse_reverse] at this
theorem pow_le_60 {n : Nat} (h : n ≤ 60) : (2 : Int) ^ n ≤ 2 ^ 60 := by
  have := Nat.pow_le_pow_right (n := 2) (by decide) h
  have e : ((2 ^ n : Nat) : Int) = 2 ^ n := by rw [Int.natCast_pow]; rfl
  (first | lia | omega)
theorem dstep_bound {n : Nat} {b r d a : Int} (hr0 : 0 ≤ r) (hr : r < b) (hb : b < 2 ^ 60) (hn : n ≤ 60) (h0 : 0 ≤ d) (h1 : d ≤ a) (h2 : a < 2 ^ 60) : 0 ≤ r * 2 ^ n + d ∧ r * 2 ^ n + d < 2 ^ 121 := by
  have p := pow_pos' n
  have q := pow_le_60 hn
  have x : 0 ≤ r * 2 ^ n := Int.mul_nonneg hr0 (Int.le_of_lt p)
  have y : r * 2 ^ n ≤ 2 ^ 60 * 2 ^ 60 := Int.mul_le_mul (by (first | lia | omega)) q (Int.le_of_lt p) (by decide)
  have z : (2 : Int) ^ 60 * 2 ^ 60 = 2 ^ 120 := by decide
  (first | lia | omega)
theorem noPy {a b : Int} (h0 : 0 < b) (h : b < 2 ^ 60) : Builtin.divisionGoesByPylong a b = false := by
  refine PyProof.noPylong_of_log2 ?_
  have : b.natAbs.log2 < 60 := (Nat.log2_lt (by (first | lia | omega))).mpr (by (first | lia | omega))
  (first | lia | omega)
theorem dloop_nonneg {n : Nat} {b : Int} (hb : 0 < b) (ds : List Int) (h : ∀ d ∈ ds, 0 ≤ d) : ∀ q ∈ (dloop n b ds).1, 0 ≤ q := by
  have key : ∀ (l : List Int), (∀ d ∈ l, 0 ≤ d) → ∀ q ∈ (dloop n b l.reverse).1, 0 ≤ q := by
    intro l
    induction l with
    | nil => intro _ q hq; simp [dloop] at hq
    | cons d t ih =>
      intro hl q hq
      rw [List.reverse_cons, dloop_append] at hq
      simp only [dstep, List.mem_append, List.mem_singleton] at hq
      rcases hq with hq | rfl
      · exact ih (fun x hx => hl x (.tail _ hx)) q hq
      · have r := dloop_rest' (n := n) hb t.reverse
        have p := pow_pos' n
        have x : 0 ≤ (dloop n b t.reverse).2 * 2 ^ n := Int.mul_nonneg r.1 (Int.le_of_lt p)
        exact Int.ediv_nonneg (by have := hl d (.head _); (first | lia | omega)) (Int.le_of_lt hb)
  have := key ds.reverse (fun d hd => h d (List.mem_reverse.mp hd))
  rwa [List.reverse_reverse] at this
theorem dloop_val {n : Nat} {b : Int} (ds : List Int) : val n (dloop n b ds.reverse).1.reverse * b + (dloop n b ds.reverse).2 = val n ds := by
  induction ds with
  | nil => simp [dloop, val]
  | cons d t ih =>
    rw [List.reverse_cons, dloop_append]
    show val n (((dloop n b t.reverse).1 ++ [((dloop n b t.reverse).2 * 2 ^ n + d) / b]).reverse) * b + ((dloop n b t.reverse).2 * 2 ^ n + d) % b = _
    rw [List.reverse_append, List.reverse_cons, List.reverse_nil, List.nil_append, List.singleton_append]
    simp only [val]
    rw [← ih]
    generalize (dloop n b t.reverse).2 = r
    generalize val n (dloop n b t.reverse).1.reverse = q
    show ((r * 2 ^ n + d) / b + 2 ^ n * q) * b + (r * 2 ^ n + d) % b = d + 2 ^ n * (q * b + r)
    have e := Int.mul_ediv_add_emod (r * 2 ^ n + d) b
    generalize (r * 2 ^ n + d) / b = u at *
    generalize (r * 2 ^ n + d) % b = v at *
    have e1 : (u + 2 ^ n * q) * b = b * u + 2 ^ n * (q * b) := by rw [Int.add_mul, Int.mul_comm u b, Int.mul_assoc]
    have e2 : r * 2 ^ n = 2 ^ n * r := Int.mul_comm _ _
    rw [e1, Int.mul_add]
    (first | lia | omega)
theorem dloop_div {n : Nat} {b : Int} (hb : 0 < b) (ds : List Int) : val n (dloop n b ds.reverse).1.reverse = val n ds / b ∧ (dloop n b ds.reverse).2 = val n ds % b := by
  have h := dloop_val (n := n) (b := b) ds
  have r := dloop_rest (n := n) hb ds
  rw [← h]
  generalize val n (dloop n b ds.reverse).1.reverse = q at *
  generalize (dloop n b ds.reverse).2 = t at *
  rw [Int.add_comm, Int.add_mul_ediv_right _ _ (Int.ne_of_gt hb), Int.add_mul_emod_self_right, Int.ediv_eq_zero_of_lt r.1 r.2, Int.emod_eq_of_lt r.1 r.2]
  exact ⟨by (first | lia | omega), rfl⟩
theorem dloop_length (n : Nat) (b : Int) (ds : List Int) : (dloop n b ds).1.length = ds.length := by
  have : ∀ (ds : List Int) (st : List Int × Int), (ds.foldl (dstep n b) st).1.length = st.1.length + ds.length := by
    intro ds
    induction ds with
    | nil => intro st; rfl
    | cons d t ih => intro st; rw [List.foldl_cons, ih]; simp [dstep]; (first | lia | omega)
  have := this ds ([], 0)
  unfold dloop
  simpa using this
end Mine

end TxtP1
section TxtP2
theorem Mine.Off.offP2 : True := by
  w_top off
  trivial
open PySem PySem.W PyProof.Rows
namespace Mine
/-- a text by its signs' numbers -/
def sOf (l : List Nat) : Str := ⟨l.toArray⟩
theorem sOf_append (a b : List Nat) : sOf a ++ sOf b = sOf (a ++ b) := by
  show Str.mk (a.toArray ++ b.toArray) = Str.mk (a ++ b).toArray
  simp
theorem sOf_length (l : List Nat) : (sOf l).length = l.length := by simp [sOf, Str.length]
theorem sOf_inj {a b : List Nat} : sOf a = sOf b ↔ a = b := by
  constructor
  · intro h
    have := congrArg (fun s => s.cps.toList) h
    simpa [sOf] using this
  · rintro rfl; rfl
theorem item_digit {d : Nat} (h : d < 10) : Txt.item (Str.ofString "0123456789") (d : Int) = sOf [48 + d] := by
  have : ∀ d : Fin 10, Txt.item (Str.ofString "0123456789") ((d.val : Nat) : Int) = sOf [48 + d.val] := by decide +kernel
  exact this ⟨d, h⟩
/-- the law's row -/
def figN (f : Nat) (x : Int) : Nat := if 9 < x.natAbs % 14 then f else x.natAbs % 14
def numsOf (ns : List Int) : List Int := ns.take 7 ++ [7, 10, 3, 10, 4, 5, 10, 2]
def firstOf (ns : List Int) : Nat := ((numsOf ns).getD 0 0).natAbs % 10
def figsOf (ns : List Int) : List Nat := firstOf ns :: ((numsOf ns).drop 1).map (figN (firstOf ns))
def rowOf (ns : List Int) : List Nat := (figsOf ns).map (48 + ·)
theorem abs_mod (x : Int) (m : Nat) (hm : 0 < m) : (if x < 0 then -x else x).fmod (m : Int) = ((x.natAbs % m : Nat) : Int) := by
  have e : (if x < 0 then -x else x) = (x.natAbs : Int) := by split <;> (first | lia | omega)
  rw [e, Int.fmod_eq_emod_of_nonneg _ (by (first | lia | omega)), Int.natCast_emod]
theorem figN_lt {f : Nat} (hf : f < 10) (x : Int) : figN f x < 10 := by unfold figN; split <;> (first | lia | omega)
theorem firstOf_lt (ns : List Int) : firstOf ns < 10 := Nat.mod_lt _ (by decide)
theorem figsOf_lt (ns : List Int) : ∀ d ∈ figsOf ns, d < 10 := by
  intro d hd
  unfold figsOf at hd
  rcases List.mem_cons.mp hd with rfl | hd
  · exact firstOf_lt ns
  · obtain ⟨x, _, rfl⟩ := List.mem_map.mp hd
    exact figN_lt (firstOf_lt ns) x
theorem figsOf_length (ns : List Int) : 8 ≤ (figsOf ns).length ∧ (figsOf ns).length ≤ 15 := by
  unfold figsOf numsOf
  simp only [List.length_cons, List.length_map, List.length_drop, List.length_append, List.length_take, List.length_nil]
  (first | lia | omega)
end Mine

end TxtP2
section TxtP3
theorem Mine.Off.offP3 : True := by
  w_top off
  trivial
open PySem PySem.W PyProof.Rows PySem.NumText
namespace Mine
theorem sOf_toList (l : List Nat) : (sOf l).cps.toList = l := by simp [sOf]
theorem slice_ss {l : List Nat} {i j : Nat} (h1 : i ≤ j) (h2 : j ≤ l.length) : Txt.slice (sOf l) (some (i : Int)) (some (j : Int)) = sOf ((l.drop i).take (j - i)) := by
  have := eq_of_beq (slice_closesL (x := sOf l) (i := (i : Int)) (j := (j : Int)) (by (first | lia | omega)) (by (first | lia | omega)) (by rw [sOf_length]; (first | lia | omega)))
  rw [this, sOf_toList]
  unfold sOf
  congr 3
  (first | lia | omega)
theorem slice_ns {l : List Nat} {j : Nat} (h2 : j ≤ l.length) : Txt.slice (sOf l) none (some (j : Int)) = sOf (l.take j) := by
  have := eq_of_beq (slice_closes_toL (x := sOf l) (j := (j : Int)) (by (first | lia | omega)) (by rw [sOf_length]; (first | lia | omega)))
  rw [this, sOf_toList]
  unfold sOf
  congr 2
theorem slice_sn {l : List Nat} {i : Nat} (h2 : i ≤ l.length) : Txt.slice (sOf l) (some (i : Int)) none = sOf (l.drop i) := by
  have := slice_from_eq (x := sOf l) (i := (i : Int)) (b := (l.length : Int)) (by (first | lia | omega)) (by rw [sOf_length]; (first | lia | omega)) (by rw [sOf_length])
  rw [this, sOf_toList]
  unfold sOf
  congr 1
  rw [List.take_of_length_le (by first | (simp; done) | (simp; (first | lia | omega)))]
  rfl
theorem slice_all (l : List Nat) : Txt.slice (sOf l) (some 0) (some ((sOf l).length : Int)) = sOf l := by
  have := slice_ss (l := l) (i := 0) (j := l.length) (Nat.zero_le _) (Nat.le_refl _)
  rw [sOf_length]
  refine this.trans ?_
  simp
theorem int_digits {l : List Nat} (h : ∀ c ∈ l, 48 ≤ c ∧ c ≤ 57) (hne : l ≠ []) (hl : l.length ≤ 640) : PySem.intText? (sOf l) = some ((digitsVal l : Nat) : Int) := by
  have := intText_digits (x := sOf l) (by rw [sOf_toList]; exact h) (by rw [sOf_toList]; exact hne) (by rw [sOf_length]; (first | lia | omega))
  rwa [sOf_toList] at this
theorem int_empty : PySem.intText? (sOf []) = none := by decide +kernel
theorem digitsVal_lt : ∀ (l : List Nat), (∀ c ∈ l, 48 ≤ c ∧ c ≤ 57) → digitsVal l < 10 ^ l.length := by
  intro l
  have key : ∀ (l : List Nat), (∀ c ∈ l.reverse, 48 ≤ c ∧ c ≤ 57) → digitsVal l.reverse < 10 ^ l.length := by
    intro l
    induction l with
    | nil => intro _; decide
    | cons c t ih =>
      intro h
      rw [List.reverse_cons] at h ⊢
      rw [digitsVal_snoc, List.length_cons, Nat.pow_succ]
      have h1 := ih (fun x hx => h x (List.mem_append_left _ hx))
      have h2 := h c (List.mem_append_right _ (.head _))
      (first | lia | omega)
  intro h
  have := key l.reverse (by rwa [List.reverse_reverse])
  rwa [List.reverse_reverse, List.length_reverse] at this
end Mine

end TxtP3
section TxtP4
theorem Mine.Off.offP4 : True := by
  w_top off
  trivial
open PySem PySem.W PyProof.Rows PySem.NumText
namespace Mine
theorem sOf_eta (x : Str) : x = sOf x.cps.toList := by
  obtain ⟨⟨l⟩⟩ := x; rfl
theorem strSub_sOf (l : List Nat) (n : Nat) : Builtin.Str.strSub (sOf l) 0 n = sOf (l.take n) := by
  rw [sOf_eta (Builtin.Str.strSub (sOf l) 0 n), StrLaws.strSub_toList, sOf_toList]
  simp
theorem spS_digit {c : Nat} (h : 48 ≤ c ∧ c ≤ 57) : spS ⟨#[c]⟩ = false := by
  have : ∀ d : Fin 10, spS ⟨#[48 + d.val]⟩ = false := by decide +kernel
  have := this ⟨c - 48, by (first | lia | omega)⟩
  rwa [show 48 + (c - 48) = c by (first | lia | omega)] at this
theorem rstrip_row {l : List Nat} (hne : l ≠ []) (hl : ∀ c ∈ l, c < 128) (hd : ∀ h : l ≠ [], 48 ≤ l.getLast h ∧ l.getLast h ≤ 57) : Txt.rstrip (sOf (l ++ [32, 10])) = sOf l := by
  have hA : ∀ c ∈ (sOf (l ++ [32, 10])).cps.toList, c < 128 := by
    intro c hc
    rw [sOf_toList] at hc
    rcases List.mem_append.mp hc with hc | hc
    · exact hl c hc
    · simp at hc; (first | lia | omega)
  obtain ⟨hi, h1, h2, h3, h4⟩ := rstrip_cut hA
  rw [h2, strSub_sOf]
  have hx : (sOf (l ++ [32, 10])).length = l.length + 2 := by rw [sOf_length]; simp
  have hpos : 0 < l.length := by cases l with | nil => exact absurd rfl hne | cons a t => simp
  have e0 : ∀ k, (sOf (l ++ [32, 10])).cps.getD k 0 = (l ++ [32, 10]).getD k 0 := by intro k; simp [sOf, Array.getD_eq_getD_getElem?]
  have hhi : hi = l.length := by
    rcases Nat.lt_trichotomy hi l.length with h | h | h
    · have := h3 (l.length - 1) (by (first | lia | omega)) (by (first | lia | omega))
      rw [e0, List.getD_eq_getElem?_getD, List.getElem?_append_left (by (first | lia | omega))] at this
      have e : l[l.length - 1]? = some (l.getLast hne) := by rw [List.getLast_eq_getElem]; exact List.getElem?_eq_getElem (by (first | lia | omega))
      rw [e] at this
      simp only [Option.getD_some] at this
      rw [spS_digit (hd hne)] at this
      cases this
    · exact h
    · rcases h4 with h4 | h4
      · (first | lia | omega)
      · rw [e0, List.getD_eq_getElem?_getD, List.getElem?_append_right (by (first | lia | omega))] at h4
        have hk : hi - 1 - l.length = 0 ∨ hi - 1 - l.length = 1 := by (first | lia | omega)
        rcases hk with hk | hk <;> rw [hk] at h4 <;> exact absurd h4 (by decide +kernel)
  rw [hhi]
  simp
theorem filter_intersperse : ∀ (l : List Nat), (∀ c ∈ l, c ≠ 95) → (l.intersperse 95).filter (· != 95) = l
  | [], _ => rfl
  | [a], h => by simp [h a (.head _)]
  | a :: b :: t, h => by
    rw [List.intersperse_cons₂]
    rw [List.filter_cons_of_pos (by simpa using h a (.head _)), List.filter_cons_of_neg (by simp), filter_intersperse (b :: t) (fun c hc => h c (.tail _ hc))]
theorem strike_row {l : List Nat} (h : ∀ c ∈ l, 48 ≤ c ∧ c ≤ 57) : Txt.replace (sOf (l.intersperse 95)) (Str.ofString "_") (Str.ofString "") = sOf l := by
  have e1 : Str.ofString "_" = ⟨#[95]⟩ := by decide +kernel
  have e2 : Str.ofString "" = ⟨#[]⟩ := by decide +kernel
  rw [e1, e2, sOf_eta (Txt.replace _ _ _), replace_strikes, sOf_toList, filter_intersperse l (fun c hc => by have := h c hc; (first | lia | omega))]
theorem mem_intersperse {c x : Nat} : ∀ {l : List Nat}, c ∈ l.intersperse x → c ∈ l ∨ c = x
  | [], h => by simp at h
  | [a], h => by simp at h; simp [h]
  | a :: b :: t, h => by
    rw [List.intersperse_cons₂] at h
    rcases List.mem_cons.mp h with rfl | h
    · exact .inl (.head _)
    · rcases List.mem_cons.mp h with rfl | h
      · exact .inr rfl
      · rcases mem_intersperse h with h | h
        · exact .inl (.tail _ h)
        · exact .inr h
theorem intersperse_ne {x b : Nat} {t : List Nat} : (b :: t).intersperse x ≠ [] := by
  intro e
  have := congrArg List.length e
  rw [List.length_intersperse] at this
  simp at this
  (first | lia | omega)
theorem last_intersperse {x : Nat} : ∀ {l : List Nat} (h : l.intersperse x ≠ []), ∃ h' : l ≠ [], (l.intersperse x).getLast h = l.getLast h'
  | [], h => absurd rfl h
  | [a], h => ⟨by simp, rfl⟩
  | a :: b :: t, h => by
    obtain ⟨h', e⟩ := last_intersperse (x := x) (l := b :: t) intersperse_ne
    refine ⟨by simp, ?_⟩
    simp only [List.intersperse_cons₂] at h ⊢
    rw [List.getLast_cons (by simp), List.getLast_cons intersperse_ne, e]
    exact (List.getLast_cons h').symm
theorem rstrip_join {l : List Nat} (hne : l ≠ []) (h : ∀ c ∈ l, 48 ≤ c ∧ c ≤ 57) : Txt.rstrip (sOf (l.intersperse 95 ++ [32, 10])) = sOf (l.intersperse 95) := by
  refine rstrip_row ?_ ?_ ?_
  · intro e; have := congrArg List.length e; rw [List.length_intersperse] at this
    cases l with | nil => exact hne rfl | cons a t => exact intersperse_ne e
  · intro c hc
    rcases mem_intersperse hc with hc | rfl
    · have := h c hc; (first | lia | omega)
    · decide
  · intro h'
    obtain ⟨h2, e⟩ := last_intersperse h'
    rw [e]
    exact h _ (List.getLast_mem h2)
end Mine

end TxtP4
section TxtB0
theorem Mine.Off.offB0 : True := by
  w_top off
  trivial
open PySem PySem.W PySem.Spec PySem.Calls PyProof.Rows
set_option Elab.async false
set_option maxRecDepth 100000
namespace Mine

/-- rooms -/
theorem rm0 {d a : Nat} (h : d + a < 900) : d < 1000 := by (first | lia | omega)
theorem rm1 {d a b : Nat} (h : d + a < 900) (hb : b + 1 ≤ a) : d + 1 + b < 900 := by (first | lia | omega)
theorem rm3 {u a b : Nat} (h : u + a < 9000) (hb : b + 3 ≤ a) : u + 3 + b < 9000 := by (first | lia | omega)
/-- the program, its written part -/
theorem prEq : PySem.Challenge.rw_nb0217_01.row.prog = PySem.Challenge.pw_nb0217_01 := rfl

/-- the heap h holds all of g and, apart from it, the objects of hid -/
structure St (g : Heap) (hid : List (Addr × Obj)) (h : Heap) : Prop where
  keep : ∀ b o, g.get? b = some o → h.get? b = some o
  hid : ∀ p ∈ hid, h.get? p.1 = some p.2 ∧ g.get? p.1 = none
  size : g.objs.size ≤ h.objs.size

theorem St.sub {g h : Heap} {hid hid' : List (Addr × Obj)} (S : St g hid h) (hs : ∀ p ∈ hid', p ∈ hid) : St g hid' h := ⟨S.keep, fun p hp => S.hid p (hs p hp), S.size⟩
theorem ltSize {h₀ h : Heap} {L : Addr} {news : List (Addr × Obj)} (N : News h₀ L h news) : ∀ p ∈ news, p.1 < h.objs.size := fun p hp => Heap.lt_size (N p hp).1
theorem St.of_fr {g h : Heap} {L : Addr} {m : Str → Option Value} {news hid : List (Addr × Obj)} (F : Fr g L h m) (N : News g L h news) (hs : ∀ p ∈ hid, p ∈ news) : St g hid h :=
  ⟨F.keep, fun p hp => ⟨(N p (hs p hp)).1, (N p (hs p hp)).2.2⟩, Nat.le_trans F.above (Nat.le_of_lt F.ns.lt)⟩

section
variable {prog : Program} {w : World} {A A₀ : Around} {s : Shared} {base g h₀ : Heap} {frs outer : List Env} {hid news : List (Addr × Obj)} {K : Frag} {env : Env} {L : Addr} {m : Str → Option Value}
  {R : Result → Shared → Prop} {name qual : Str} {params : Arguments} {body : List Stmt} {scope : Scope} {cl : List (Str × Addr)} {dV kV doc pm cdv ct oc : Value} {an od : Option Addr} {osl : Array (Option Value)} {fo : Obj} {f : Addr} {args : Args} {binds : List (Str × Value)}
  {p : Program} {loose : List Str} {mean : ExcName → Option Value} {mg mb : Str → Option Value}

theorem enterX (S : St g hid s.heap) (hlim : g.NoLimit) (ho : s.heap.get? f = some fo) (hd : fo.data = .func (fnX name qual params body scope cl dV kV doc pm an cdv ct)) (hcd : s.heap.CodeRec cdv qual) (hroom : A.depth < recursionLimit)
    (hbind : BindsTo s (fnX name qual params body scope cl dV kV doc pm an cdv ct) args binds) (hloc : ∀ y ∈ binds, scope.names.lookup y.1 = some .local)
    (h : ∀ L' h₁, Fr g L' h₁ (fun y => binds.reverse.lookup y) → News g L' h₁ hid → (∀ p ∈ hid, p.1 < L') → @Eq Nat s.heap.objs.size L' →
      wpAny (model prog w) (A.deeper (envX qual scope L' f cdv cl)) (execs body (envX qual scope L' f cdv cl))
        (fun fl s' => R (.ok (.ret (match fl with | .ret v => v | _ => .none))) s')
        (fun e s' => wpAny (model prog w) (A.deeper (envX qual scope L' f cdv cl)) (leaving (envX qual scope L' f cdv cl) e) (fun _ s'' => R (.error e) s'') (fun e' s'' => R (.error e') s'') s')
        { s with heap := h₁, toks := s.toks + binds.length })
    (hcell : ∀ x ∈ scope.names, x.2 ≠ .cell) (hco : scope.isCoroutine = false := by rfl) (hgen : scope.isGenerator = false := by rfl) (hk : scope.kind = .function := by rfl) : codeAny (model prog w) A (.call (.ref f) args) R s := by
  refine codeAny_call_def (fd := fnX name qual params body scope cl dV kV doc pm an cdv ct) (body := body) (binds := binds) hroom ho hd (hlim.keeps S.keep) hcd rfl hbind hcell hloc (fun h₁ hns hk₁ => ?_) hco hgen hk
  exact h s.heap.objs.size h₁ ⟨hns, fun b o e => hk₁ b o (S.keep b o e), S.size⟩
    (fun p hp => ⟨hk₁ _ _ (S.hid p hp).1, Nat.ne_of_lt (Heap.lt_size (S.hid p hp).1), (S.hid p hp).2⟩) (fun p hp => Heap.lt_size (S.hid p hp).1) rfl

/-- a def of the text, plain -/
theorem enterG (S : St g hid s.heap) (X : K.In g) (T : Top p loose mean mg mb g)
    (ho : K.lookup f = some ⟨oc, od, .func (fnOf name qual params body scope dV kV doc pm an cdv ct), osl⟩) (hcd : codeIn K cdv qual = true) (hroom : A.depth < recursionLimit)
    (hbind : BindsTo s (fnOf name qual params body scope dV kV doc pm an cdv ct) args binds) (hloc : ∀ y ∈ binds, scope.names.lookup y.1 = some .local)
    (h : ∀ L' h₁, Fr g L' h₁ (fun y => binds.reverse.lookup y) → News g L' h₁ hid → (∀ p ∈ hid, p.1 < L') → @Eq Nat s.heap.objs.size L' →
      wpAny (model prog w) (A.deeper (envOf qual scope L' f cdv)) (execs body (envOf qual scope L' f cdv))
        (fun fl s' => R (.ok (.ret (match fl with | .ret v => v | _ => .none))) s')
        (fun e s' => wpAny (model prog w) (A.deeper (envOf qual scope L' f cdv)) (leaving (envOf qual scope L' f cdv) e) (fun _ s'' => R (.error e) s'') (fun e' s'' => R (.error e') s'') s')
        { s with heap := h₁, toks := s.toks + binds.length })
    (hco : scope.isCoroutine = false) (hgen : scope.isGenerator = false) (hk : scope.kind = .function)
    (hcell : ∀ x ∈ scope.names, x.2 ≠ .cell) : codeAny (model prog w) A (.call (.ref f) args) R s :=
  enterX (cl := []) S T.nolimit (S.keep _ _ (X _ _ ho)) rfl (codeRec_of (X.keeps S.keep) hcd) hroom hbind hloc h hcell hco hgen hk

/-- a def of the text that has cells -/
theorem enterC (S : St g hid s.heap) (X : K.In g) (T : Top p loose mean mg mb g)
    (ho : K.lookup f = some ⟨oc, od, .func (fnOf name qual params body scope dV kV doc pm an cdv ct), osl⟩) (hcd : codeIn K cdv qual = true) (hroom : A.depth < recursionLimit)
    (hbind : BindsTo s (fnOf name qual params body scope dV kV doc pm an cdv ct) args binds) (hkind : (binds.all fun y => scope.names.lookup y.1 == some .local || scope.names.lookup y.1 == some .cell) = true)
    (hnd : ((cellsFrom 0 scope.names []).map (·.1)).Nodup)
    (h : ∀ L' h₁ tk cells, Fr g L' h₁ (bindL (envOfC qual scope L' f cdv).kindOf binds fun _ => none) → News g L' h₁ (cells ++ hid) →
      CellsAre (bindC (envOfC qual scope L' f cdv).kindOf binds fun _ => none) (cellsFrom (L' + 1) scope.names []) cells → (∀ p ∈ hid, p.1 < L') → @Eq Nat s.heap.objs.size L' →
      wpAny (model prog w) (A.deeper (envOfC qual scope L' f cdv)) (execs body (envOfC qual scope L' f cdv))
        (fun fl s' => R (.ok (.ret (match fl with | .ret v => v | _ => .none))) s')
        (fun e s' => wpAny (model prog w) (A.deeper (envOfC qual scope L' f cdv)) (leaving (envOfC qual scope L' f cdv) e) (fun _ s'' => R (.error e) s'') (fun e' s'' => R (.error e') s'') s')
        { s with heap := h₁, toks := tk })
    (hco : scope.isCoroutine = false) (hgen : scope.isGenerator = false) (hk : scope.kind = .function) : codeAny (model prog w) A (.call (.ref f) args) R s := by
  refine codeAny_call_function (fd := fnOf name qual params body scope dV kV doc pm an cdv ct) hroom (S.keep _ _ (X _ _ ho)) rfl hco hgen rfl (codeRec_of (X.keeps S.keep) hcd) (hbind _ _ _ _ ?_)
  refine wpAny_newFunctionEnv_cells hk (kindsX hkind _) fun env' he s' x => ?_
  subst he
  refine ⟨(T.nolimit.keeps S.keep).keeps x.toInCall.keep, codeAny_func ?_⟩
  obtain ⟨h₁, tk, rfl, _⟩ := x.done
  have hk₁ := x.toInCall.keep
  obtain ⟨cells, NC, Y⟩ := Cl.news (h₀ := s.heap) (Nat.le_refl _) fun n c hm => ⟨x.cell n c (lookup_of_mem_nodup (cellsFrom_names scope.names 0 (s.heap.objs.size + 1) [] [] rfl ▸ hnd) hm), x.above n c hm⟩
  refine h s.heap.objs.size h₁ tk cells ⟨x.toInCall.ns, fun b o e => hk₁ b o (S.keep b o e), S.size⟩ (fun p hp => ?_) Y (fun p hp => Heap.lt_size (S.hid p hp).1) rfl
  rcases List.mem_append.mp hp with hp | hp
  · refine ⟨(NC p hp).1, (NC p hp).2.1, ?_⟩
    cases q : g.get? p.1 with
    | none => rfl
    | some o => have := S.keep _ _ q; rw [(NC p hp).2.2] at this; cases this
  · exact ⟨hk₁ _ _ (S.hid p hp).1, Nat.ne_of_lt (Heap.lt_size (S.hid p hp).1), (S.hid p hp).2⟩

/-- from a frame of the walk: what a contract asks -/
theorem askG (B : Below A₀ base outer h₀) (F : Fr h₀ L s.heap m) (N : News h₀ L s.heap news) (hA : A.frames = some (env :: outer)) (hf : env.frame = some L) (hke : env.scope.kind = .function)
    (hid : List (Addr × Obj)) (hsub : ∀ p ∈ hid, p ∈ news) :
    ∃ g, Below A base (env :: outer) g ∧ h₀.StaysIn g ∧ St g hid s.heap ∧
      (∀ h' hid', St g hid' h' → Fr h₀ L h' m ∧ ∀ rest, (∀ p ∈ rest, p ∈ news ∧ p.1 ∉ hid.map (·.1)) → News h₀ L h' (hid' ++ rest)) := by
  have N' : News h₀ L s.heap hid := fun p hp => N p (hsub p hp)
  obtain ⟨FG, BG, st, _⟩ := groundX (A := A) (env := env) (R := fun _ _ => True) B F N' hA hf hke
  refine ⟨hideAll s.heap (hid.map (·.1)), BG, st, ⟨fun b o e => of_hideAll _ e, fun p hp => ⟨(N' p hp).1, hideAll_none _ (List.mem_map_of_mem hp)⟩, Nat.le_of_eq (hideAll_size _ _)⟩, fun h' hid' S => ?_⟩
  have nL : ∀ p ∈ hid', p.1 ≠ L ∧ h₀.get? p.1 = none := fun p hp => by
    refine ⟨fun q => ?_, ?_⟩
    · obtain ⟨oL, _, _, hL, _⟩ := FG.ns
      have := (S.hid p hp).2
      rw [q, hL] at this; cases this
    · cases q : h₀.get? p.1 with
      | none => rfl
      | some o => have := (S.hid p hp).2; rw [st _ _ q] at this; cases this
  refine ⟨⟨?_, fun b o e => S.keep b o (st b o e), F.above⟩, fun rest hr p hp => ?_⟩
  · obtain ⟨oL, es, ep, hL, r⟩ := FG.ns
    exact ⟨oL, es, ep, S.keep _ _ hL, r⟩
  · rcases List.mem_append.mp hp with hp | hp
    · exact ⟨(S.hid p hp).1, (nL p hp).1, (nL p hp).2⟩
    · have n := N p (hr p hp).1
      exact ⟨S.keep _ _ (hideAll_get _ n.1 (hr p hp).2), n.2⟩

/-- a call of a contract from a frame of the walk -/
theorem callG {M : Model} {E : Value → Shared → Prop} {Q : Value → Shared → Prop} {fv : Value} {pos : List Value} (B : Below A base outer h₀) (F : Fr h₀ L s.heap m) (N : News h₀ L s.heap news) (hf : env.frame = some L) (hke : env.scope.kind = .function)
    (hid : List (Addr × Obj)) (hsub : ∀ p ∈ hid, p ∈ news)
    (h : ∀ g, Below (A.deeper env) base (env :: outer) g → h₀.StaysIn g → St g hid s.heap →
      (∀ h' hid', St g hid' h' → Fr h₀ L h' m ∧ ∀ rest, (∀ p ∈ rest, p ∈ news ∧ p.1 ∉ hid.map (·.1)) → News h₀ L h' (hid' ++ rest)) →
      codeAny M (A.deeper env) (.call fv ⟨pos, []⟩) (fun r s' => match r with | .ok (.ret v) => Q v s' | .ok _ => False | .error e => E e s') s) :
    wpAny M (A.deeper env) (call fv pos) Q E s := by
  obtain ⟨g, B2, st, S, back⟩ := askG (A := A.deeper env) B F N (Around.frames_deeper B.stack) hf hke hid hsub
  exact wpAny_call (h g B2 st S back)
end
end Mine

end TxtB0
section TxtB1
theorem Mine.Off.offB1 : True := by
  w_top off
  trivial
open PySem PySem.W PySem.Spec PySem.Calls PyProof.Rows
set_option Elab.async false
set_option maxRecDepth 100000
set_option maxHeartbeats 2000000
namespace Mine

section
variable {prog : Program} {w : World} {A : Around} {E : Value → Shared → Prop} {s : Shared} {a b n v : Int} {t u : Tok} {Q : Value → Shared → Prop}
theorem rshift_to (hn : 0 ≤ n) (e : a.fdiv (2 ^ n.toNat) = v) (h : Q (.int v s.toks) { s with toks := s.toks + 1 }) : wpAny (model prog w) A (binaryOp .RShift (.int a t) (.int n u)) Q E s := rshift_int hn (e ▸ h)
theorem fdiv_to (hb : b ≠ 0) (hp : Builtin.divisionGoesByPylong a b = false) (e : a.fdiv b = v) (h : Q (.int v s.toks) { s with toks := s.toks + 1 }) : wpAny (model prog w) A (binaryOp .FloorDiv (.int a t) (.int b u)) Q E s := floordiv_int hb (e ▸ h) (Or.inl hp)
theorem mod_to (hb : b ≠ 0) (e : a.fmod b = v) (h : Q (.int v s.toks) { s with toks := s.toks + 1 }) : wpAny (model prog w) A (binaryOp .Mod (.int a t) (.int b u)) Q E s := mod_int' hb (e ▸ h)
theorem lshift_to (hn : 0 ≤ n) (hn2 : n ≤ 1000000) (ha : a.natAbs < 2 ^ 64) (e : a * 2 ^ n.toNat = v) (h : Q (.int v s.toks) { s with toks := s.toks + 1 }) : wpAny (model prog w) A (binaryOp .LShift (.int a t) (.int n u)) Q E s := lshift_int_small hn hn2 ha (e ▸ h)
theorem mul_to (hm : IntMulOk a b) (e : a * b = v) (h : Q (.int v s.toks) { s with toks := s.toks + 1 }) : wpAny (model prog w) A (binaryOp .Mult (.int a t) (.int b u)) Q E s := PyProof.Rows.mul_int (e ▸ h) hm
theorem xor_to (e : Builtin.bitXor a b = v) (h : Q (.int v s.toks) { s with toks := s.toks + 1 }) : wpAny (model prog w) A (binaryOp .BitXor (.int a t) (.int b u)) Q E s := xor_int (e ▸ h)
end
theorem mulOk {a b : Int} (ha : a.natAbs < 2 ^ 64) (hb : b.natAbs < 2 ^ 64) : IntMulOk a b :=
  IntMulOk.of_le (m := 64) (n := 64) (intBits_le_iff.mpr ha) (intBits_le_iff.mpr hb) (by decide)
theorem small_natAbs {x : Int} (h0 : 0 ≤ x) (h1 : x < 2 ^ 60) : x.natAbs < 2 ^ 64 := by (first | lia | omega)

/-- the def that the def at a makes as its k-th statement, with its cells -/
def Inner (w : World) (a : Addr) (k : Nat) (clos : List (Str × Addr)) (c' : Addr) (qual' : Str) (fo : Obj) : Prop :=
  ∃ oc od name qual params body scope dV kV doc pm an cdv ct osl iname iparams ibody iscope ipos idoc ipm ictv,
    (hd.heap_39 w.params).lookup a = some ⟨oc, od, .func (fnOf name qual params body scope dV kV doc pm an cdv ct), osl⟩ ∧
    body[k]? = some (.FunctionDef iname iparams ibody [] none [] iscope none iname ipos) ∧
    fo = fnMade iname qual' iparams ibody iscope clos idoc ipm c' ictv
theorem Inner.mk {w : World} {a : Addr} {k : Nat} {clos : List (Str × Addr)} {c' : Addr} {qual' : Str} {oc : Value} {od : Option Addr} {name qual : Str} {params : Arguments} {body : List Stmt} {scope : Scope} {dV kV doc pm : Value} {an : Option Addr} {cdv ct : Value} {osl : Array (Option Value)}
    {iname : Str} {iparams : Arguments} {ibody : List Stmt} {iscope : Scope} {ipos : Pos} {idoc ipm ictv : Value}
    (hK : (hd.heap_39 w.params).lookup a = some ⟨oc, od, .func (fnOf name qual params body scope dV kV doc pm an cdv ct), osl⟩)
    (hb : body[k]? = some (.FunctionDef iname iparams ibody [] none [] iscope none iname ipos)) : Inner w a k clos c' qual' (fnMade iname qual' iparams ibody iscope clos idoc ipm c' ictv) :=
  ⟨_, _, _, _, _, _, _, _, _, _, _, _, _, _, _, _, _, _, _, _, _, _, _, hK, hb, rfl⟩
theorem Inner.open {w : World} {a : Addr} {k : Nat} {clos : List (Str × Addr)} {c' : Addr} {qual' : Str} {fo : Obj} {P : Prop} (hI : Inner w a k clos c' qual' fo)
    {oc : Value} {od : Option Addr} {name qual : Str} {params : Arguments} {body : List Stmt} {scope : Scope} {dV kV doc pm : Value} {an : Option Addr} {cdv ct : Value} {osl : Array (Option Value)}
    {iname : Str} {iparams : Arguments} {ibody : List Stmt} {iscope : Scope} {ipos : Pos}
    (hK : (hd.heap_39 w.params).lookup a = some ⟨oc, od, .func (fnOf name qual params body scope dV kV doc pm an cdv ct), osl⟩)
    (hb : body[k]? = some (.FunctionDef iname iparams ibody [] none [] iscope none iname ipos))
    (h : ∀ idoc ipm ictv, fo = fnMade iname qual' iparams ibody iscope clos idoc ipm c' ictv → P) : P := by
  obtain ⟨oc1, od1, name1, qual1, params1, body1, scope1, dV1, kV1, doc1, pm1, an1, cdv1, ct1, osl1, iname1, iparams1, ibody1, iscope1, ipos1, idoc1, ipm1, ictv1, hK1, hb1, rfl⟩ := hI
  rw [hK] at hK1
  simp only [Option.some.injEq, Obj.mk.injEq, Data.func.injEq, fnOf, FuncData.mk.injEq, FuncBody.stmts.injEq] at hK1
  have e : body = body1 := by simp only [hK1]
  subst e
  rw [hb] at hb1
  simp only [Option.some.injEq, Stmt.FunctionDef.injEq] at hb1
  obtain ⟨rfl, rfl, rfl, _, _, _, rfl, _, _, rfl⟩ := hb1
  exact h _ _ _ rfl
/-- what a maker's table may hold: nothing, or the one code -/
def Tq (P : Addr) (l c : Nat) (qual : Str) (t : Obj) (c0 : Addr) (oc0 : Obj) : Prop :=
  (t = tabObj #[] ∧ c0 = P ∧ oc0 = tabObj #[]) ∨ (t = tabObj #[rawInt l, rawInt c, .ref c0] ∧ ∃ cvs tq, oc0.data = .fields cvs ∧ cvs[1]? = some (.str qual tq))
theorem Tq.apart {P : Addr} {l c : Nat} {qual : Str} {c0 : Addr} {oc0 : Obj} {cvs : Array Value} {tq : Tok} {g h : Heap} {hid : List (Addr × Obj)} (S : St g ((P, tabObj #[rawInt l, rawInt c, .ref c0]) :: (c0, oc0) :: hid) h)
    (hoc : oc0.data = .fields cvs) (hcv : cvs[1]? = some (.str qual tq)) : ¬ @Eq Nat c0 P := by
  intro e
  have e1 := (S.hid _ (.head _)).1
  have e2 := (S.hid _ (.tail _ (.head _))).1
  dsimp only at e1 e2
  rw [e, e1] at e2
  have e3 := Option.some.inj e2
  rw [← e3] at hoc
  have e4 : #[rawInt l, rawInt c, Value.ref c0] = cvs := by simpa using hoc
  rw [← e4] at hcv
  simp [rawInt] at hcv
/-- an object that is no code -/
def NoCode (o : Obj) : Prop := ∀ cvs q t, o.data = .fields cvs → cvs[1]? ≠ some (.str q t)
theorem Tq.no {P : Addr} {l c : Nat} {qual : Str} {t : Obj} {c0 : Addr} {oc0 : Obj} (hq : Tq P l c qual t c0 oc0) : NoCode t := by
  rintro cvs q tk hd hv
  rcases hq with ⟨rfl, _, _⟩ | ⟨rfl, _⟩
  · have e : #[] = cvs := by simpa using hd
    rw [← e] at hv; simp at hv
  · have e : #[rawInt l, rawInt c, Value.ref c0] = cvs := by simpa using hd
    rw [← e] at hv; simp [rawInt] at hv
theorem Tq.apart2 {P P' : Addr} {l c l' c' : Nat} {qual qual' : Str} {t t' : Obj} {c0 c1 : Addr} {oc0 oc1 : Obj} {g h : Heap} {hid : List (Addr × Obj)} (hq : Tq P l c qual t c0 oc0) (hq1 : Tq P' l' c' qual' t' c1 oc1) (hP : ¬ @Eq Nat P P') (hne : qual ≠ qual')
    (S : St g ((P, t) :: (c0, oc0) :: (P', t') :: (c1, oc1) :: hid) h) : ¬ @Eq Nat c0 P' ∧ ¬ @Eq Nat c1 P ∧ ¬ @Eq Nat c0 c1 := by
  have e1 : h.get? P = some t := (S.hid _ (.head _)).1
  have e2 : h.get? c0 = some oc0 := (S.hid _ (.tail _ (.head _))).1
  have e3 : h.get? P' = some t' := (S.hid _ (.tail _ (.tail _ (.head _)))).1
  have e4 : h.get? c1 = some oc1 := (S.hid _ (.tail _ (.tail _ (.tail _ (.head _))))).1
  have n0 := hq.no
  have n1 := hq1.no
  have a1 : ¬ @Eq Nat c0 P' := by
    intro e
    rcases hq with ⟨_, rfl, _⟩ | ⟨_, cvs, tq, hd, hv⟩
    · exact hP e
    · rw [show c0 = P' from e, e3] at e2
      exact n1 cvs _ _ (by rw [Option.some.inj e2]; exact hd) hv
  have a2 : ¬ @Eq Nat c1 P := by
    intro e
    rcases hq1 with ⟨_, rfl, _⟩ | ⟨_, cvs, tq, hd, hv⟩
    · exact hP e.symm
    · rw [show c1 = P from e, e1] at e4
      exact n0 cvs _ _ (by rw [Option.some.inj e4]; exact hd) hv
  refine ⟨a1, a2, fun e => ?_⟩
  rcases hq with ⟨_, rfl, _⟩ | ⟨_, cvs, tq, hd, hv⟩
  · exact a2 e.symm
  · rcases hq1 with ⟨_, rfl, _⟩ | ⟨_, cvs', tq', hd', hv'⟩
    · exact a1 e
    · rw [show c0 = c1 from e, e4] at e2
      have e5 := Option.some.inj e2
      rw [← e5, hd'] at hd
      have e6 : cvs' = cvs := by simpa using hd
      rw [← e6, hv'] at hv
      simp at hv
      exact hne hv.1.symm
/-- some entries of a ledger -/
@[reducible] def pick {h₀ h : Heap} {L : Addr} {news : List (Addr × Obj)} (_ : News h₀ L h news) (f : List (Addr × Obj) → List (Addr × Obj)) : List (Addr × Obj) := f news
theorem codeRec_st {g h : Heap} {hid : List (Addr × Obj)} {c : Addr} {oc : Obj} {vs : Array Value} {qual : Str} {t : Tok} (S : St g hid h) (hm : (c, oc) ∈ hid) (hd : oc.data = .fields vs) (hv : vs[1]? = some (.str qual t)) : h.CodeRec (.ref c) qual :=
  ⟨c, oc, vs, t, rfl, (S.hid _ hm).1, hd, hv⟩
end Mine

end TxtB1
section TxtB2
theorem Mine.Off.offB2 : True := by
  w_top off
  trivial
open PySem PySem.W PySem.Spec PySem.Calls PyProof.Rows
set_option Elab.async false
set_option maxRecDepth 100000
set_option maxHeartbeats 2000000
namespace Mine

theorem ints_rev {vs : List Value} {ds : List Int} (hi : IntsAre vs ds) {i : Nat} (hlt : i < vs.length) {v : Value} (hv : vs.toArray[vs.length - 1 - i]? = some v) : ∃ n t, v = .int n t ∧ ds.reverse[i]? = some n := by
  have e : vs.length = ds.length := hi.length
  have hv' : vs[vs.length - 1 - i]? = some v := by simpa using hv
  clear hv
  have key : ∀ {vs : List Value} {ds : List Int}, IntsAre vs ds → ∀ {j : Nat} {v : Value}, vs[j]? = some v → ∃ n t, v = .int n t ∧ ds[j]? = some n := by
    intro vs ds h
    induction h with
    | nil => intro j v hv; simp at hv
    | cons n t _ ih =>
      intro j v hv
      cases j with
      | zero => simp at hv; exact ⟨n, t, hv.symm, by simp⟩
      | succ j => simp at hv; obtain ⟨n', t', e1, e2⟩ := ih hv; exact ⟨n', t', e1, by simpa using e2⟩
  obtain ⟨n, t, e1, e2⟩ := key hi hv'
  refine ⟨n, t, e1, ?_⟩
  rw [List.getElem?_reverse (by (first | lia | omega)), ← e2]
  congr 1; (first | lia | omega)

section
variable {prog : Program} {w : World} {A : Around} {E : Value → Shared → Prop} {s : Shared} {env : Env} {h₀ : Heap} {x : Str} {body : List Stmt} {Q : Flow → Shared → Prop}
theorem kst_rev {σ : Type} {I D : Addr} {vs : List Value} {ds : List Int} {m₀ : Str → Option Value} (Led : σ → List (Addr × Obj)) (ps : σ → List (Str × Value)) (Facts : σ → Prop) (stored : List Str) (P : List Int → σ → Prop) (c₀ : σ)
    (hh : A.handled = none) (hit : s.heap.IsRevIter I D ((vs.length : Int) - 1)) (hl : s.heap.IsList D vs.toArray) (hIn : h₀.get? I = none) (hDI : D ≠ I) (hIL : I ≠ env.locals) (hDL : D ≠ env.locals) (hi : IntsAre vs ds)
    (F : Fr h₀ env.locals s.heap m₀) (N : News h₀ env.locals s.heap (Led c₀)) (hoff : ∀ p ∈ Led c₀, p.1 ≠ I ∧ p.1 ≠ D) (hf : Facts c₀) (hk : ∀ p ∈ ps c₀, m₀ p.1 = some p.2) (hp : P [] c₀)
    (turn : ∀ (c : σ) pre post n t (u : Str → Option Value) h tk own, ds.reverse = pre ++ n :: post → OwnOff own ((Led c₀).map (·.1)) → Facts c → P pre c →
      Fr h₀ env.locals h (fun y => if y = x then some (.int n t) else kstB (fun z => if stored.contains z then u z else m₀ z) (ps c) y) → News h₀ env.locals h (Led c ++ own) →
      wpAny (model prog w) A (execs body env) (InvPostN h₀ env.locals (KstS Led ps Facts x stored m₀ P (pre ++ [n])) own ((Led c₀).map (·.1)) { s with heap := h, toks := tk } Q) E { s with heap := h, toks := tk })
    (done : ∀ (c : σ) (u : Str → Option Value) h tk, Facts c → P ds.reverse c → Fr h₀ env.locals h (fun y => if y = x then u y else kstB (fun z => if stored.contains z then u z else m₀ z) (ps c) y) → News h₀ env.locals h (Led c) → Q .next { s with heap := h, toks := tk }) :
    wpAny (model prog w) A (pyIter (.ref I)) (fun it s₂ => LoopAtV prog w A h₀ env x body Q E it s₂) E s := by
  refine wpAny_pyIter_revIter hit ?_
  have W := Walks.listRev (prog := prog) (w := w) hh I D hDI vs.toArray
  have hlen : vs.toArray.size = vs.length := by simp
  rw [hlen] at W
  refine loop_invN (fun i m nx => KstS Led ps Facts x stored m₀ P (ds.reverse.take i) m nx) W ?_ ?_ ?_ ?_ ⟨Nat.zero_le _, ?_, hl⟩ F N ⟨c₀, rfl, hf, hk, fun _ _ _ _ => rfl, by simpa using hp⟩ ?_ ?_
  · intro hm
    rcases List.mem_cons.mp hm with e | hm
    · exact hIL e.symm
    · exact hDL (List.mem_singleton.mp hm).symm
  · intro b hb
    rw [List.mem_singleton.mp hb]; exact hIn
  · intro p hp hI
    exact (hoff p hp).1 (List.mem_singleton.mp hI)
  · intro p hp hI
    rcases List.mem_cons.mp hI with e | hm
    · exact (hoff p hp).1 e
    · exact (hoff p hp).2 (List.mem_singleton.mp hm)
  · have e : (vs.length : Int) - 1 - ((0 : Nat) : Int) = (vs.length : Int) - 1 := by (first | lia | omega)
    rw [e]; exact hit
  · rintro i v m₁ nx h tk own hlt hv _ hoff' ⟨c, rfl, hf', h1, h2, hp'⟩ F₁ N₁
    obtain ⟨n, t, rfl, hn⟩ := ints_rev hi hlt hv
    have hs : ds.reverse.take (i + 1) = ds.reverse.take i ++ [n] := by simp [List.take_add_one, hn]
    have e : ds.reverse = ds.reverse.take i ++ n :: ds.reverse.drop (i + 1) := by
      have ht := List.take_append_drop (i + 1) ds.reverse
      rw [hs, List.append_assoc] at ht
      exact ht.symm
    rw [hs]
    exact turn c _ _ n t m₁ h tk own e hoff' hf' hp' (kst_fr h1 h2 F₁) N₁
  · rintro m₁ nx h tk ⟨c, rfl, hf', h1, h2, hp'⟩ F₁ N₁
    rw [List.take_of_length_le (by rw [List.length_reverse, hi.length]; exact Nat.le_refl _)] at hp'
    exact done c m₁ h tk hf' hp' (kst_frOut h1 h2 F₁) N₁
end
end Mine

end TxtB2
section TxtB3
theorem Mine.Off.offB3 : True := by
  w_top off
  trivial
open PySem PySem.W PySem.Spec PySem.Calls PyProof.Rows
set_option Elab.async false
set_option maxRecDepth 100000
set_option maxHeartbeats 2000000
namespace Mine

theorem noBool_set : typeLookup (.type "set") "__bool__" = pure none := by rw [typeLookup_type, builtinLookup_eq_fast]; kernel_rfl
section
variable {prog : Program} {w : World} {A : Around} {E : Value → Shared → Prop} {s : Shared} {a : Addr} {o : Obj} {es : Array (Int × Value)} {ep : Nat} {t : SetTable}
theorem truthy_set {Q : Bool → Shared → Prop} (ho : s.heap.get? a = some o) (hex : o.ExactSet) (hd : o.data = .set es ep t) (hf : t.fits es.size = true) (hfit : (es.size : Int) < 2 ^ 63)
    (h : Q (!es.isEmpty) { s with toks := s.toks + 1 + 1 }) : wpAny (model prog w) A (truthy (.ref a)) Q E s := by
  have hT : s.TypeIs (.ref a) "set" := ⟨o, ho, hex.1⟩
  have hne : ((es.size : Int) != 0) = !es.isEmpty := by
    rw [Array.isEmpty]
    cases hz : es.size <;> simp <;> (first | lia | omega)
  have key : wpAny (model prog w) A (runValue (.builtin "len" ⟨[.ref a], []⟩)) (fun r s' => r = .int es.size (s.toks + 1) ∧ Q (!es.isEmpty) s') E s := by
    refine wpAny_runValue (codeAny_builtin entry_len ?_)
    rw [Around.under_plainId plain_len _]
    exact wpAny_mono (wpAny_len_body_set (Q := fun r s' => r = .int es.size (s.toks + 1) ∧ Q (!es.isEmpty) s') ho hex hd hf hfit ⟨rfl, h⟩)
      (fun fin s' h' => by obtain ⟨r, rfl, hq⟩ := h'; exact hq) fun _ _ e => e
  unfold truthy
  first
    | refine wpAny_bind (wpAny_callSpecial?_none (name := Str.ofString "__bool__") hT noBool_set ?_)
    | refine wpAny_bind (wpAny_pure (wpAny_bind (wpAny_callSpecial?_none (name := Str.ofString "__bool__") hT noBool_set ?_)))
  first
    | refine wpAny_bind (wpAny_specialOf (name := Str.ofString "__len__") hT F.slot_set_len.lookup ?_)
    | refine wpAny_bind (wpAny_pure (wpAny_bind (wpAny_specialOf (name := Str.ofString "__len__") hT F.slot_set_len.lookup ?_)))
  first
    | exact wpAny_bind (wpAny_mono key (fun r s' h' => by obtain ⟨rfl, hq⟩ := h'; exact wpAny_pure (hne ▸ hq)) fun _ _ e => e)
    | exact wpAny_bind (wpAny_pure (wpAny_bind (wpAny_mono key (fun r s' h' => by obtain ⟨rfl, hq⟩ := h'; exact wpAny_pure (hne ▸ hq)) fun _ _ e => e)))

theorem choose_one {M : Model} {src : Source} {Q : Nat → Shared → Prop} (h : Q 0 { s with drawn := s.drawn.bump src }) : wpAny M A (choose src 1) Q E s := fun Γ p _ => by
  show Sem.wp M Γ (.choose src 1 .pure) _ _ p s
  rw [Sem.wp_choose]
  refine ⟨by decide, ?_⟩
  rw [Nat.mod_one]
  exact h

theorem pop_one {Q : Value → Shared → Prop} {x : Value} {hx : Int} (ho : s.heap.get? a = some o) (hex : o.ExactSet) (hd : o.data = .set #[(hx, x)] ep t) (hf : t.fits 1 = true)
    (h : ∀ dr, Q x { s with heap := s.heap.update a (Obj.putSet #[] (t.popped 0)), drawn := dr }) : wpAny (model prog w) A (call (.builtin "set.pop") [.ref a]) Q E s := by
  have hT : s.TypeIs (.ref a) "set" := ⟨o, ho, hex.1⟩
  refine wpAny_call_entry F.slot_set_pop hT F.entry_set_pop ?_ (F.args_set_pop_1 _)
  unfold Builtin.«set.pop» Builtin.Frozenset.noArgs
  simp only [List.isEmpty_nil, bind_assoc]
  unfold Builtin.Frozenset.addrOf setPop
  have hp : t.popPlace = some 0 := by
    simp only [SetTable.fits, Bool.and_eq_true, beq_iff_eq] at hf
    unfold SetTable.popPlace
    have hz : t.place.size = 1 := hf.1
    have hne : t.place.isEmpty = false := by rw [Array.isEmpty, hz]; rfl
    rw [hne]
    simp only [Bool.false_eq_true, if_false, hz]
    split <;> first | rfl | (congr 1; done) | (congr 1; (first | lia | omega))
  refine wpAny_bind (wpAny_pure ?_)
  try dsimp only
  refine wpAny_bind ?_
  refine wpAny_bind (wpAny_setState_of ho hd hf ?_)
  dsimp only
  rw [hp]
  dsimp only
  unfold setsByText
  refine wpAny_bind (wpAny_bind (wpAny_askSetting (wpAny_pure ?_)))
  have fin : ∀ dr, wpAny (model prog w) A.in1 (do storeSet a #[] (t.popped 0); pure (some x)) (fun a s' => wpAny (model prog w) A.in1 (match a with | some x => ret x | x => do rule "set.pop.empty"; raiseErrorWords "KeyError" "pop from an empty set") (fun fin s' => ∃ v, fin = Fin.done (Flow.ret v) ∧ Q v s') E s') E { s with drawn := dr } := by
    intro dr
    exact wpAny_bind (wpAny_storeSet_of (s := { s with drawn := dr }) ho hd (wpAny_pure (wpAny_pure ⟨_, rfl, h dr⟩)))
  split
  · refine wpAny_bind (choose_one ?_)
    exact fin _
  · refine wpAny_bind ?_
    show wpAny _ _ (if (!t.led && decide ((#[(hx, x)] : Array (Int × Value)).size > 1)) = true then _ else _) _ _ _
    rw [if_neg (by simp)]
    exact wpAny_pure (wpAny_bind (wpAny_pure (fin s.drawn)))
theorem putSet_of (hex : o.ExactSet) (hd : o.data = .set es ep t) (es' : Array (Int × Value)) (t' : SetTable) : (Obj.putSet es' t' o).ExactSet ∧ (Obj.putSet es' t' o).data = .set es' (ep + 1) t' ∧ (Obj.putSet es' t' o).isFreed = false := by
  obtain ⟨c, d, dt, sl⟩ := o
  simp only at hd; subst hd
  exact ⟨hex, rfl, rfl⟩
theorem arr_one {α : Type} {es : Array α} (h : es.size = 1) : ∃ e, es = #[e] := by
  obtain ⟨l⟩ := es
  match l, h with
  | [e], _ => exact ⟨e, rfl⟩
theorem popped_fits (hf : t.fits 1 = true) : (t.popped 0).fits 0 = true := by
  obtain ⟨mask, place, dummies, finger, led, moves, plain⟩ := t
  simp only [SetTable.fits, SetTable.fill, Bool.and_eq_true, beq_iff_eq, decide_eq_true_eq] at hf
  obtain ⟨hz, hm⟩ := hf
  have h0 : place[0]? = some (place[0]'(by (first | lia | omega))) := Array.getElem?_eq_getElem (by (first | lia | omega))
  simp only [SetTable.popped, SetTable.drop, h0, SetTable.fits, SetTable.fill, SetTable.eraseAt, SetTable.insertAt, Bool.and_eq_true, beq_iff_eq, decide_eq_true_eq, Array.size_append, Array.size_push, Array.size_extract]
  refine ⟨by (first | lia | omega), ?_⟩
  generalize SetTable.below dummies place[0] = q
  have hm2 := of_decide_eq_true hm
  (first | lia | omega)
end
section
variable {prog : Program} {w : World} {A : Around} {E : Value → Shared → Prop} {s : Shared} {h₀ : Heap} {L D : Addr} {m : Str → Option Value} {news news' : List (Addr × Obj)} {o : Obj} {S : Int → Bool} {k : Nat}
theorem truthy_setK {Q : Bool → Shared → Prop} (N : News h₀ L s.heap news) (hm : (D, o) ∈ news) (hs : o.SetObjOf (intKind prog w) S k) (hk : k < 1000) (h : Q (!(k == 0)) { s with toks := s.toks + 1 + 1 }) : wpAny (model prog w) A (truthy (.ref D)) Q E s := by
  obtain ⟨hex, es, ep, t, hd, hel, hmem, hn, hf⟩ := hs
  refine truthy_set (N _ hm).1 hex hd hf (by (first | lia | omega)) ?_
  rw [Array.isEmpty, hn]; exact h
theorem method_popK {Q : Value × List Value → Shared → Prop} {pl : Sem Bool} (N : News h₀ L s.heap news) (hm : (D, o) ∈ news) (hs : o.SetObjOf (intKind prog w) S k) (hk : k < scanBound) (h : Q (.builtin "set.pop", [.ref D]) s) :
    wpAny (model prog w) A (getMethod (.ref D) (Str.ofString "pop") pl) Q E s :=
  have hS := hs.setOf (N _ hm).1 hk
  getMethod_builtin hS.typeIs F.plainAttrs_set F.slot_set_pop F.type_set_pop hS.noDict h
theorem pop_oneK {Q : Value → Shared → Prop} {n : Int} {gl : Obj → List (Addr × Obj)} (F : Fr h₀ L s.heap m) (N : News h₀ L s.heap news) (U : UpdF D o news gl) (hs : o.SetObjOf (intKind prog w) (fun k' => false || decide (k' = n)) 1)
    (h : ∀ o' h' dr tk, o'.SetObjOf (intKind prog w) (fun _ => false) 0 → Fr h₀ L h' m → News h₀ L h' (gl o') → Q (.int n tk) { s with heap := h', drawn := dr }) :
    wpAny (model prog w) A (call (.builtin "set.pop") [.ref D]) Q E s := by
  obtain ⟨hex, es, ep, t, hd, hel, hmem, hn, hf⟩ := hs
  obtain ⟨own, rest, rfl, hg, h1, h2⟩ := U.split
  have z := N (D, o) (List.mem_append_right _ (.head _))
  obtain ⟨⟨hx, x⟩, rfl⟩ := arr_one hn
  have hxn : ∃ tk, x = .int n tk := by
    obtain ⟨e, he, hi⟩ := (hmem n).mp (by simp)
    simp at he
    subst he
    exact Value.isInt_shape hi
  obtain ⟨tk, rfl⟩ := hxn
  refine pop_one z.1 hex hd hf fun dr => ?_
  have ps := putSet_of hex hd #[] (t.popped 0)
  have hnew : (s.heap.update D (Obj.putSet #[] (t.popped 0))).get? D = some (Obj.putSet #[] (t.popped 0) o) := Heap.get?_update_self _ z.1 ps.2.2
  refine h _ _ dr tk ⟨ps.1, #[], _, _, ps.2.1, fun e he => by simp at he, fun k => by simp, rfl, popped_fits hf⟩ (F.change (Heap.SameBut.update ..) z.2.1 z.2.2) ?_
  rw [hg]
  exact news_set N h1 h2 (Heap.SameBut.update ..) hnew
end
end Mine

end TxtB3
section TxtB4
theorem Mine.Off.offB4 : True := by
  w_top off
  trivial
open PySem PySem.W PySem.Spec PySem.Calls PyProof.Rows
set_option Elab.async false
set_option maxRecDepth 100000
set_option maxHeartbeats 2000000
namespace Mine

section
variable {prog : Program} {w : World} {A : Around} {E : Value → Shared → Prop} {s : Shared} {K : Frag} {e t0 : Addr} {C : Addr}
def OwnAt (h : Heap) (e : Addr) (C : Addr) (t0 : Addr) (items : List Value) : Prop :=
  ∃ oe ot ws nt, h.get? e = some oe ∧ h.get? t0 = some ot ∧ oe.cls = .ref C ∧ oe.data = .fields ws ∧ ws[0]? = some (.ref t0) ∧ ot.cls = .type "tuple" ∧ ot.data = .seq items.toArray nt
theorem OwnAt.of {h₀ h : Heap} {L : Addr} {news : List (Addr × Obj)} {vs : List Value} (G : Got news e t0 (.ref C) vs) (N : News h₀ L h news) : OwnAt h e C t0 vs := by
  obtain ⟨oe, ot, ws, nt, h1, h2, r⟩ := G
  exact ⟨oe, ot, ws, nt, N.get h1, N.get h2, r⟩
theorem OwnAt.type {M : Model} {h : Heap} {items : List Value} (x : OwnAt h e C t0 items) : Looks M h (typeOf (.ref e)) (.ref C) := by
  obtain ⟨oe, ot, ws, nt, h1, h2, h3, _⟩ := x
  exact h3 ▸ (Looks.ld h1).andThen .now
theorem bexcArgs_own {M : Model} {items : List Value} {Q : Value × List Value → Shared → Prop} (x : OwnAt s.heap e C t0 items) (hq : Q (.ref t0, items) s) :
    wpAny M A (PySem.Builtin.BaseException.bexcArgs (.ref e)) Q E s := by
  obtain ⟨o, ot, vs, k, ho, hto, _, hd, h0, _, htd⟩ := x
  unfold PySem.Builtin.BaseException.bexcArgs
  refine wpAny_bind (wpAny_field ho hd h0 (wpAny_bind (wpAny_seqItems hto htd ?_)))
  have : items.toArray.toList = items := by simp
  show wpAny M A (pure (Value.ref t0, items.toArray.toList)) Q E s
  rw [this]; exact wpAny_pure hq
theorem bexcStr_own {m : Str} {tk : Tok} {Q : Fin → Shared → Prop} (x : OwnAt s.heap e C t0 [.str m tk]) (hq : Q (.done (.ret (.str m tk))) s) :
    wpAny (model prog w) A (Builtin.«BaseException.__str__» ⟨[.ref e], []⟩) Q E s := by
  unfold Builtin.«BaseException.__str__»
  repeat (first | with_reducible refine bexcArgs_own x ?_ | wp_step)
  exact hq
theorem call_bexcStr_own {m : Str} {tk : Tok} {Q : Value → Shared → Prop} (X : K.In s.heap) (hsub : subIn K (.ref C) (.type "BaseException") = some true) (x : OwnAt s.heap e C t0 [.str m tk]) (hq : Q (.str m tk) s) :
    wpAny (model prog w) A (call (.builtin "BaseException.__str__") [.ref e]) Q E s :=
  wpAny_call (codeAny_call_builtin PySem.F.excStr_Exception.str.plain PySem.F.entry_bexc_str (check_slot (i := "BaseException.__str__") (owner := "BaseException") (n := "__str__") (by decide +kernel) (by decide +kernel) (x.type.andThen (looks_subIn X hsub)) (PySem.F.args_bexc_str _) (bexcStr_own x hq)))
theorem special_own {name : Str} {id : String} {items args : List Value} {Q : Option Value → Shared → Prop} {M : Model} (X : K.In s.heap) (x : OwnAt s.heap e C t0 items) (hs : findIn K (.ref C) name = some (some (.builtin id)))
    (hb : ∀ self, bindSpecial (.builtin id) self = pure (.builtin id, [self])) (h : wpAny M A (call (.builtin id) (.ref e :: args)) (fun v => Q (some v)) E s) : wpAny M A (callSpecial? (.ref e) name args) Q E s :=
  wpAny_bind (wpAny_bind (x.type.here ((looks_findIn X hs).here (wpAny_holding (wpAny_bind ((Looks.of_pure (hb _)).here (wpAny_bind (wpAny_mono h (fun _ _ z => wpAny_pure z) fun _ _ z => z))))))))
theorem strOf_own {m : Str} {tk : Tok} {Q : Value → Shared → Prop} (X : K.In s.heap) (hsub : subIn K (.ref C) (.type "BaseException") = some true) (hf : findIn K (.ref C) "__str__" = some (some (.builtin "BaseException.__str__"))) (hu : A.units < cLine)
    (x : OwnAt s.heap e C t0 [.str m tk]) (hq : Q (.str m tk) s) : wpAny (model prog w) A (PySem.Builtin.Str.strOf (.ref e)) Q E s := by
  unfold PySem.Builtin.Str.strOf
  repeat (first | with_reducible refine wpAny_cRoomFor hu ?_ | with_reducible refine special_own X x hf PySem.F.excStr_Exception.str.bind (call_bexcStr_own X hsub x ?_) | wp_step)
  exact hq
theorem str_own {m : Str} {tk : Tok} {Q : Value → Shared → Prop} (X : K.In s.heap) (hsub : subIn K (.ref C) (.type "BaseException") = some true) (hf : findIn K (.ref C) "__str__" = some (some (.builtin "BaseException.__str__"))) (hu : A.units + 2 < cLine)
    (x : OwnAt s.heap e C t0 [.str m tk]) (h : Q (.str m tk) s) :
    wpAny (model prog w) A (call (.type "str") [.ref e]) Q E s :=
  callType_new PySem.F.called_str (by decide) (PySem.F.typeCall_str_1 _) (PySem.F.newCall_str_1 _) (fun obj => PySem.F.args_object_init_2 obj _) PySem.F.entry_str_new
    (meets_str_new (S := fun A' R s' => A'.units + 1 < cLine ∧ K.In s'.heap ∧ OwnAt s'.heap e C t0 [.str m tk] ∧ R (.ok (.ret (.str m tk))) s')
      fun _ _ A' _ _ hq => strOf_own (A := A'.in1) hq.2.1 hsub hf hq.1 hq.2.2.1 hq.2.2.2)
    ⟨(show A.units + 1 + 1 < cLine from hu), X, x, typeIs_str _ _ _, h⟩
end
end Mine

end TxtB4
section TxtB5
theorem Mine.Off.offB5 : True := by
  w_top off
  trivial
open PySem PySem.W PySem.Spec PySem.Calls PyProof.Rows
set_option Elab.async false
set_option maxRecDepth 100000
set_option maxHeartbeats 2000000
namespace Mine

def Stw (fs : List Addr) (g : Heap) (hid : List (Addr × Obj)) (h : Heap) : Prop := ∃ g', KtsTurn fs g g' ∧ St g' hid h
theorem Stw.mk {fs : List Addr} {g g' : Heap} {hid : List (Addr × Obj)} {h : Heap} (T : KtsTurn fs g g') (S : St g' hid h) : Stw fs g hid h := ⟨g', T, S⟩
theorem Stw.of {fs : List Addr} {g : Heap} {hid : List (Addr × Obj)} {h : Heap} (S : St g hid h) : Stw fs g hid h := ⟨g, .refl, S⟩
end Mine

end TxtB5
section TxtW1
theorem Mine.Off.offW1 : True := by
  w_top off
  trivial
open PySem PySem.W PySem.Spec PySem.Calls PyProof.Rows
set_option Elab.async false
set_option maxRecDepth 100000
set_option maxHeartbeats 2000000
namespace Mine

section
variable {M : Model} {A : Around} {s : Shared}
theorem codeC_loop {c : Code} {R : Result → Shared → Prop} (hq : c.quiet = true) (I : Nat → Shared → Prop)
    (turn : ∀ n s, I n s → wpC M (A.under c) (M.den c)
      (fun fin s' => match fin with
        | .done f => R (.ok f) s'
        | .again c' => (c' = c ∧ ∃ m, m < n ∧ I m s') ∨ (c'.quiet = true ∧ codeC M A c' R s')) (fun e s' => R (.error e) s') s)
    (n : Nat) (h : I n s) : codeC M A c R s := by
  induction n using Nat.strongRecOn generalizing s with
  | ind n ih =>
    refine codeC_of_tree (wpC_mono (turn n s h) (fun fin s' hf => ?_) fun _ _ h' => h')
    cases fin with
    | done f => exact hf
    | again c' =>
      rcases hf with ⟨rfl, m, hm, hI⟩ | hf
      · exact ⟨hq, ih m hm hI⟩
      · exact hf
end
section
variable {prog : Program} {w : World} {A : Around} {E : Value → Shared → Prop} {s : Shared} {env : Env}
theorem wpC_noted {α : Type} {M : Model} {m : Sem α} {Q : α → Shared → Prop} (h : wpC M A m Q (notedBy M A env E) s) : wpC M A (m.onRaise fun x => do noteFrame x env; theTreesLotGoes x) Q E s :=
  wpC_onRaise (wpC_mono h (fun _ _ q => q) fun _ _ hx => wpAny_bind (wpAny_mono hx (fun _ _ e => wpAny_theTreesLotGoes e) fun _ _ e => e))
theorem codeC_forLoop {R : Result → Shared → Prop} {target : Expr} {it : Value} {body : List Stmt} (I : Nat → Shared → Prop)
    (turn : ∀ n s, I n s → wpAny (model prog w) A (pyNext it) (fun r s₁ => match r with
      | none => R (.ok .next) s₁
      | some v => wpAny (model prog w) A (assign target env v) (fun _ s₂ => wpC (model prog w) A (execs body env) (fun f s₃ => match f with
          | .next | .cont => ∃ m, m < n ∧ I m s₃
          | .brk => R (.ok .next) s₃
          | .ret v => R (.ok (.ret v)) s₃) (notedBy (model prog w) A env fun e s' => R (.error e) s') s₂) (notedBy (model prog w) A env fun e s' => R (.error e) s') s₁) (notedBy (model prog w) A env fun e s' => R (.error e) s') s)
    (n : Nat) (h : I n s) (ht : ∀ v, letOwnedTupleGo target it v = pure () := by intro _; rfl) : codeC (model prog w) A (.forLoop target it body [] env) R s := by
  refine codeC_loop rfl I (fun n s hI => ?_) n h
  show wpC _ _ ((forTurn target it body [] env).onRaise (fun x => do noteFrame x env; theTreesLotGoes x)) _ _ s
  refine wpC_noted ?_
  simp only [forTurn]
  refine wpC_pre (wpAny_standAt (wpC_pre (wpAny_onRaise (wpAny_mono (turn n s hI) (fun r s₁ h₁ => ?_) fun _ _ h' => wpAny_standAt h'))))
  cases r with
  | none => exact wpC_pure (.inr ⟨rfl, codeC_of (codeAny_block (wpAny_execs_nil h₁))⟩)
  | some v =>
    refine wpC_pre (wpAny_of_eq (ht v) ?_)
    refine wpC_pre (wpAny_mono h₁ (fun _ s₂ h₂ => wpC_bind (wpC_mono h₂ (fun f s₃ h₃ => ?_) fun _ _ h' => h')) fun _ _ h' => h')
    cases f with
    | next => exact wpC_pure (.inl ⟨rfl, h₃⟩)
    | cont => exact wpC_pure (.inl ⟨rfl, h₃⟩)
    | brk => exact wpC_pure h₃
    | ret v => exact wpC_pure h₃
theorem wpC_Call {func : Expr} {args : List Expr} {pos : Pos} {Q : Value → Shared → Prop}
    (h : wpAny (model prog w) A (eval func env) (fun f s₁ => wpC (model prog w) A (callWith pos f [] (backTo pos (starEach args env)) []) Q E s₁) E s)
    (he : eval (.Call func args [] pos) env = (do callWith pos (← eval func env) [] (backTo pos (starEach args env)) (backToKw pos (keywordEach [] env))) := by rfl) :
    wpC (model prog w) A (eval (.Call func args [] pos) env) Q E s := by
  rw [he]; exact wpC_pre h
theorem wpC_keep {M : Model} {α : Type} {vs : List Value} {m : Sem α} {Q : α → Shared → Prop} (h : wpC M A m Q E s) : wpC M A (m.keep vs) Q E s :=
  fun Γ p hΓ hn => by rw [Sem.wp_keep]; exact h Γ p hΓ hn
theorem wpC_callWith_fn {M : Model} {pos : Pos} {a : Addr} {o : Obj} {fd : FuncData} {first : List Value} {args : List (Bool × Sem Value)} {Q : Value → Shared → Prop}
    (h : wpAny M A (evalArgs (.ref a) true args []) (fun x s₁ => (s₁.heap.get? a = some o ∧ o.data = .func fd) ∧ wpC M A (call (.ref a) (first ++ x.pos) x.kw) Q E s₁) E s) :
    wpC M A (callWith pos (.ref a) first args []) Q E s := by
  unfold callWith
  refine wpC_pre (wpAny_holding (wpAny_mono h (fun x s₁ h₁ => wpC_pre (wpAny_standAt ?_)) fun _ _ x => x))
  have tail : ∀ {t : Sem Value}, wpC M A t Q E s₁ → wpC M A (t >>= fun r => holding [r] point >>= fun _ => pure r) Q E s₁ :=
    fun ht => wpC_bind (wpC_mono ht (fun r s₂ hr => wpC_pre (wpAny_holding (wpAny_point (wpC_pure hr)))) fun _ _ x => x)
  cases hs : args.any (·.1) <;> simp only [List.any_nil, Bool.or_false] <;>
    refine wpC_pre (m := keeperOf (.ref a)) ?_ <;> unfold keeperOf <;>
    refine wpAny_bind (wpAny_load h₁.1.1 ?_) <;> rw [h₁.1.2] <;> refine wpAny_pure ?_
  · dsimp only
    split
    · exact tail h₁.2
    · exact tail (t := callMarked plainCall (.ref a) (first ++ x.pos) x.kw) (wpC_keep h₁.2)
  · exact tail (t := callMarked starredCall (.ref a) (first ++ x.pos) x.kw) (wpC_keep h₁.2)
theorem wpC_callWith_def {M : Model} {pos : Pos} {f : Addr} {o : Obj} {fd : FuncData} {e : Expr} {rest : List Expr} {Q : Value → Shared → Prop} (hdat : o.data = .func fd)
    (h : wpAny M A (spliced (backTo pos (starEach (e :: rest) env))) (fun vs s₁ => s₁.heap.get? f = some o ∧ wpC M A (call (.ref f) vs) Q E s₁) E s)
    (he : starEach (e :: rest) env = (false, eval e env) :: starEach rest env := by rfl) :
    wpC M A (callWith pos (.ref f) [] (backTo pos (starEach (e :: rest) env)) []) Q E s := by
  rw [he] at h ⊢
  exact wpC_callWith_fn (o := o) (fd := fd) (evalArgs_plain (wpAny_mono h (fun vs s₁ h₁ => ⟨⟨h₁.1, hdat⟩, h₁.2⟩) fun _ _ x => x))
theorem wpC_callWith_type {M : Model} {pos : Pos} {T : String} {e : Expr} {rest : List Expr} {Q : Value → Shared → Prop}
    (h : wpAny M A (spliced (backTo pos (starEach (e :: rest) env))) (fun vs s₁ => wpC M A (call (.type T) vs) Q E s₁) E s)
    (he : starEach (e :: rest) env = (false, eval e env) :: starEach rest env := by rfl)
    (hplain : (backTo pos (starEach (e :: rest) env)).any (·.1) = false := by rfl) :
    wpC M A (callWith pos (.type T) [] (backTo pos (starEach (e :: rest) env)) []) Q E s := by
  unfold callWith
  refine wpC_pre (wpAny_holding (m := evalArgs (.type T) true (backTo pos (starEach (e :: rest) env)) []) ?_)
  have h2 : wpAny M A (evalArgs (.type T) true (backTo pos (starEach (e :: rest) env)) []) (fun x s₁ => x.kw = [] ∧ wpC M A (call (.type T) x.pos) Q E s₁) E s := by
    rw [he] at h ⊢
    exact evalArgs_plain (wpAny_mono h (fun vs s₁ h₁ => ⟨rfl, h₁⟩) fun _ _ x => x)
  refine wpAny_mono h2 (fun a s₁ h₁ => wpC_pre (wpAny_standAt ?_)) fun _ _ x => x
  obtain ⟨ap, ak⟩ := a
  obtain ⟨hk, h₁⟩ := h₁
  cases hk
  simp only [hplain, List.any_nil, Bool.or_false]
  refine wpC_pre (wpAny_pure ?_)
  exact wpC_bind (wpC_mono h₁ (fun r s₂ hr => wpC_pre (wpAny_holding (wpAny_point (wpC_pure hr)))) fun _ _ x => x)
end
section
variable {prog : Program} {w : World} {A A₀ : Around} {s : Shared} {base g h₀ : Heap} {frs outer : List Env} {hid news : List (Addr × Obj)} {K : Frag} {env : Env} {L : Addr} {m : Str → Option Value}
  {R : Result → Shared → Prop} {name qual : Str} {params : Arguments} {body : List Stmt} {scope : Scope} {cl : List (Str × Addr)} {dV kV doc pm cdv ct oc : Value} {an od : Option Addr} {osl : Array (Option Value)} {fo : Obj} {f : Addr} {args : Args} {binds : List (Str × Value)}
  {p : Program} {loose : List Str} {mean : ExcName → Option Value} {mg mb : Str → Option Value}
theorem enterGC (S : St g hid s.heap) (X : K.In g) (T : Top p loose mean mg mb g)
    (ho : K.lookup f = some ⟨oc, od, .func (fnOf name qual params body scope dV kV doc pm an cdv ct), osl⟩) (hcd : codeIn K cdv qual = true) (hroom : A.depth < recursionLimit)
    (hbind : BindsTo s (fnOf name qual params body scope dV kV doc pm an cdv ct) args binds) (hloc : ∀ y ∈ binds, scope.names.lookup y.1 = some .local)
    (h : ∀ L' h₁, Fr g L' h₁ (fun y => binds.reverse.lookup y) → News g L' h₁ hid → (∀ p ∈ hid, p.1 < L') → @Eq Nat s.heap.objs.size L' →
      wpC (model prog w) (A.deeper (envOf qual scope L' f cdv)) (execs body (envOf qual scope L' f cdv))
        (fun fl s' => R (.ok (.ret (match fl with | .ret v => v | _ => .none))) s')
        (fun e s' => wpAny (model prog w) (A.deeper (envOf qual scope L' f cdv)) (leaving (envOf qual scope L' f cdv) e) (fun _ s'' => R (.error e) s'') (fun e' s'' => R (.error e') s'') s')
        { s with heap := h₁, toks := s.toks + binds.length })
    (hco : scope.isCoroutine = false) (hgen : scope.isGenerator = false) (hk : scope.kind = .function)
    (hcell : ∀ x ∈ scope.names, x.2 ≠ .cell) : codeC (model prog w) A (.call (.ref f) args) R s := by
  refine codeC_call_function (fd := fnOf name qual params body scope dV kV doc pm an cdv ct) hroom (S.keep _ _ (X _ _ ho)) rfl hco hgen rfl (codeRec_of (X.keeps S.keep) hcd) (hbind _ _ _ _ ?_)
  refine wpAny_newFunctionEnv hcell hloc (fun h₁ hns hsb => ⟨(T.nolimit.keeps S.keep).fresh _ hsb, codeC_func ?_⟩) hk
  have hk₁ : ∀ b o, s.heap.get? b = some o → h₁.get? b = some o := fun b o e => hsb.extBut b o (Nat.ne_of_lt (Heap.lt_size e)) (Heap.get?_push_of_some _ e)
  exact h s.heap.objs.size h₁ ⟨hns, fun b o e => hk₁ b o (S.keep b o e), S.size⟩
    (fun p hp => ⟨hk₁ _ _ (S.hid p hp).1, Nat.ne_of_lt (Heap.lt_size (S.hid p hp).1), (S.hid p hp).2⟩) (fun p hp => Heap.lt_size (S.hid p hp).1) rfl
theorem enterCC (S : St g hid s.heap) (hlim : g.NoLimit) (ho : s.heap.get? f = some fo) (hd : fo.data = .func (fnOf name qual params body scope dV kV doc pm an cdv ct)) (hcd : s.heap.CodeRec cdv qual) (hroom : A.depth < recursionLimit)
    (hbind : BindsTo s (fnOf name qual params body scope dV kV doc pm an cdv ct) args binds) (hkind : (binds.all fun y => scope.names.lookup y.1 == some .local || scope.names.lookup y.1 == some .cell) = true)
    (hnd : ((cellsFrom 0 scope.names []).map (·.1)).Nodup)
    (h : ∀ L' h₁ tk cells, Fr g L' h₁ (bindL (envOfC qual scope L' f cdv).kindOf binds fun _ => none) → News g L' h₁ (cells ++ hid) →
      CellsAre (bindC (envOfC qual scope L' f cdv).kindOf binds fun _ => none) (cellsFrom (L' + 1) scope.names []) cells → (∀ p ∈ hid, p.1 < L') → @Eq Nat s.heap.objs.size L' →
      wpC (model prog w) (A.deeper (envOfC qual scope L' f cdv)) (execs body (envOfC qual scope L' f cdv))
        (fun fl s' => R (.ok (.ret (match fl with | .ret v => v | _ => .none))) s')
        (fun e s' => wpAny (model prog w) (A.deeper (envOfC qual scope L' f cdv)) (leaving (envOfC qual scope L' f cdv) e) (fun _ s'' => R (.error e) s'') (fun e' s'' => R (.error e') s'') s')
        { s with heap := h₁, toks := tk })
    (hco : scope.isCoroutine = false) (hgen : scope.isGenerator = false) (hk : scope.kind = .function) : codeC (model prog w) A (.call (.ref f) args) R s := by
  refine codeC_call_function (fd := fnOf name qual params body scope dV kV doc pm an cdv ct) hroom ho hd hco hgen rfl hcd (hbind _ _ _ _ ?_)
  refine wpAny_newFunctionEnv_cells hk (kindsX hkind _) fun env' he s' x => ?_
  subst he
  refine ⟨(hlim.keeps S.keep).keeps x.toInCall.keep, codeC_func ?_⟩
  obtain ⟨h₁, tk, rfl, _⟩ := x.done
  have hk₁ := x.toInCall.keep
  obtain ⟨cells, NC, Y⟩ := Cl.news (h₀ := s.heap) (Nat.le_refl _) fun n c hm => ⟨x.cell n c (lookup_of_mem_nodup (cellsFrom_names scope.names 0 (s.heap.objs.size + 1) [] [] rfl ▸ hnd) hm), x.above n c hm⟩
  refine h s.heap.objs.size h₁ tk cells ⟨x.toInCall.ns, fun b o e => hk₁ b o (S.keep b o e), S.size⟩ (fun p hp => ?_) Y (fun p hp => Heap.lt_size (S.hid p hp).1) rfl
  rcases List.mem_append.mp hp with hp | hp
  · refine ⟨(NC p hp).1, (NC p hp).2.1, ?_⟩
    cases q : g.get? p.1 with
    | none => rfl
    | some o => have := S.keep _ _ q; rw [(NC p hp).2.2] at this; cases this
  · exact ⟨hk₁ _ _ (S.hid p hp).1, Nat.ne_of_lt (Heap.lt_size (S.hid p hp).1), (S.hid p hp).2⟩
end
end Mine

end TxtW1
section TxtLR
theorem Mine.Off.offLR : True := by
  w_top off
  trivial
open PySem PySem.W PySem.Spec PySem.Calls PyProof.Rows
set_option Elab.async false
set_option maxRecDepth 100000
set_option maxHeartbeats 2000000
namespace Mine

section
variable {prog : Program} {w : World} {A : Around} {s : Shared} {env : Env} {g : Heap} {L It : Addr} {R : Result → Shared → Prop} {target : Expr} {body : List Stmt}
/-- a loop over a range, the ground fixed, its iterator in the ledger -/
theorem loopR (hh : A.handled = none) (a : Int) (n : Nat) (J : Nat → (Str → Option Value) → List (Addr × Obj) → Prop) {m : Str → Option Value} {others : List (Addr × Obj)} {o : Obj}
    (h0 : J 0 m others) (F : Fr g L s.heap m) (N : News g L s.heap ((It, o) :: others)) (hi : IsRangeIter s.heap It a n 1) (hap : ∀ q ∈ others, q.1 ≠ It)
    (step : ∀ i m₁ others₁ o₁ h₁ tk₁ t, i < n → J i m₁ others₁ → Fr g L h₁ m₁ → News g L h₁ ((It, o₁) :: others₁) → IsRangeIter h₁ It (a + ((i + 1 : Nat) : Int) * 1) ((n : Int) - ((i + 1 : Nat) : Int)) 1 → (∀ q ∈ others₁, q.1 ≠ It) →
      wpAny (model prog w) A (assign target env (.int (a + i) t)) (fun _ s₂ => wpC (model prog w) A (execs body env) (fun f s₃ => f = .next ∧ ∃ m₂ others₂ h₂ tk₂, s₃ = { s with heap := h₂, toks := tk₂ } ∧ J (i + 1) m₂ others₂ ∧ Fr g L h₂ m₂ ∧ News g L h₂ ((It, o₁) :: others₂) ∧ (∀ q ∈ others₂, q.1 ≠ It))
        (notedBy (model prog w) A env fun e s' => R (.error e) s') s₂) (notedBy (model prog w) A env fun e s' => R (.error e) s') { s with heap := h₁, toks := tk₁ })
    (done : ∀ m₁ others₁ h₁ tk₁, J n m₁ others₁ → Fr g L h₁ m₁ → News g L h₁ others₁ → R (.ok .next) { s with heap := h₁, toks := tk₁ }) 
    (ht : ∀ v, letOwnedTupleGo target (.ref It) v = pure () := by intro _; rfl) :
    codeC (model prog w) A (.forLoop target (.ref It) body [] env) R s := by
  have W := Walks.range (prog := prog) (w := w) hh It a 1 n
  have hIt : g.get? It = none := (N _ (List.Mem.head _)).2.2
  have hItL : It ≠ L := (N _ (List.Mem.head _)).2.1
  have gne : ∀ b o, g.get? b = some o → b ∉ [It] := fun b o e hb => by
    rw [List.mem_singleton.mp hb, hIt] at e; cases e
  refine codeC_forLoop (fun k s' => ∃ i m₁ others₁ o₁ h₁ tk₁, k = n + 1 - i ∧ i ≤ n ∧ s' = { s with heap := h₁, toks := tk₁ } ∧ J i m₁ others₁ ∧ Fr g L h₁ m₁ ∧ News g L h₁ ((It, o₁) :: others₁) ∧ IsRangeIter h₁ It (a + (i : Nat) * 1) ((n : Int) - (i : Nat)) 1 ∧ (∀ q ∈ others₁, q.1 ≠ It)) ?_ (n + 1)
    ⟨0, m, others, o, s.heap, s.toks, rfl, Nat.zero_le _, rfl, h0, F, N, by simpa using hi, hap⟩ ht
  rintro k s' ⟨i, m₁, others₁, o₁, h₁, tk₁, rfl, hin, rfl, hJ, F₁, N₁, hR₁, hap₁⟩
  have next : ∀ h₂ : Heap, (∀ b o, b ∉ [It] → h₁.get? b = some o → h₂.get? b = some o) → Fr g L h₂ m₁ ∧ News g L h₂ others₁ := fun h₂ hk =>
    ⟨⟨F₁.ns.at' fun o e => hk _ o (fun q => hItL (List.mem_singleton.mp q).symm) e, fun b o e => hk b o (gne b o e) (F₁.keep b o e), F₁.above⟩,
      fun q hq => ⟨hk _ _ (fun z => hap₁ q hq (List.mem_singleton.mp z)) (N₁ q (List.Mem.tail _ hq)).1, (N₁ q (List.Mem.tail _ hq)).2⟩⟩
  by_cases hlt : i < n
  · refine W.item i _ _ _ hlt hR₁ fun v h₂ tk₂ hP hst hk => ?_
    obtain ⟨t, rfl⟩ := hP
    obtain ⟨F₂, N₂⟩ := next h₂ hk
    obtain ⟨o₂, ho₂, ho₃⟩ : ∃ o, h₂.get? It = some o ∧ o = { cls := .type "range_iterator", dict := none, data := .fields #[rawInt (a + ((i + 1 : Nat) : Int) * 1), rawInt ((n : Int) - ((i + 1 : Nat) : Int)), rawInt 1], slots := #[] } := ⟨_, hst, rfl⟩
    have N₃ : News g L h₂ ((It, o₂) :: others₁) := fun q hq => by
      rcases List.mem_cons.mp hq with rfl | hq
      · exact ⟨ho₂, hItL, hIt⟩
      · exact N₂ q hq
    have st := step i m₁ others₁ o₂ h₂ tk₂ t hlt hJ F₂ N₃ (by simpa using hst) hap₁
    rw [Int.mul_one]
    refine wpAny_mono st (fun _ s₂ h₂' => wpC_mono h₂' (fun f s₃ hf => ?_) fun _ _ e => e) fun _ _ e => e
    obtain ⟨rfl, m₂, others₂, h₃, tk₃, rfl, hJ₂, F₃, N₄, hap₂⟩ := hf
    refine ⟨n + 1 - (i + 1), by (first | lia | omega), i + 1, m₂, others₂, o₂, h₃, tk₃, rfl, hlt, rfl, hJ₂, F₃, N₄, ?_, hap₂⟩
    exact ((N₄ _ (List.Mem.head _)).1).trans (congrArg some ho₃)
  · obtain rfl : i = n := by (first | lia | omega)
    refine W.done _ _ _ hR₁ fun h₂ tk₂ hk => ?_
    obtain ⟨F₂, N₂⟩ := next h₂ hk
    exact done _ _ _ _ hJ F₂ N₂
/-- a loop over a list of the ledger -/
theorem loopL (hh : A.handled = none) {Li : Addr} {lo : Obj} (items : Array Value) (hlc : lo.cls = .type "list") {nl : Nat} (hld : lo.data = .seq items nl) (J : Nat → (Str → Option Value) → List (Addr × Obj) → Prop) {m : Str → Option Value} {others : List (Addr × Obj)} {o : Obj}
    (h0 : J 0 m others) (F : Fr g L s.heap m) (N : News g L s.heap ((It, o) :: (Li, lo) :: others)) (hoc : o.cls = .type "list_iterator") (hod : o.data = .fields #[.ref Li, .int 0 0]) (hne : Li ≠ It) (hap : ∀ q ∈ others, q.1 ≠ It)
    (step : ∀ i m₁ others₁ o₁ h₁ tk₁ v, items[i]? = some v → J i m₁ others₁ → Fr g L h₁ m₁ → News g L h₁ ((It, o₁) :: (Li, lo) :: others₁) → (∀ q ∈ others₁, q.1 ≠ It) →
      wpAny (model prog w) A (assign target env v) (fun _ s₂ => wpC (model prog w) A (execs body env) (fun f s₃ => f = .next ∧ ∃ m₂ others₂ h₂ tk₂, s₃ = { s with heap := h₂, toks := tk₂ } ∧ J (i + 1) m₂ others₂ ∧ Fr g L h₂ m₂ ∧ News g L h₂ ((It, o₁) :: (Li, lo) :: others₂) ∧ (∀ q ∈ others₂, q.1 ≠ It))
        (notedBy (model prog w) A env fun e s' => R (.error e) s') s₂) (notedBy (model prog w) A env fun e s' => R (.error e) s') { s with heap := h₁, toks := tk₁ })
    (done : ∀ m₁ others₁ h₁ tk₁, J items.size m₁ others₁ → Fr g L h₁ m₁ → News g L h₁ others₁ → R (.ok .next) { s with heap := h₁, toks := tk₁ }) 
    (ht : ∀ v, letOwnedTupleGo target (.ref It) v = pure () := by intro _; rfl) :
    codeC (model prog w) A (.forLoop target (.ref It) body [] env) R s := by
  have W := Walks.list (prog := prog) (w := w) hh It Li hne items
  have hIt : g.get? It = none := (N _ (List.Mem.head _)).2.2
  have hItL : It ≠ L := (N _ (List.Mem.head _)).2.1
  have gne : ∀ b o, g.get? b = some o → b ∉ [It] := fun b o e hb => by
    rw [List.mem_singleton.mp hb, hIt] at e; cases e
  have lst : ∀ h : Heap, h.get? Li = some lo → h.IsList Li items := fun h e => ⟨lo, e, hlc, nl, hld⟩
  refine codeC_forLoop (fun k s' => ∃ i m₁ others₁ o₁ h₁ tk₁, k = items.size + 1 - i ∧ i ≤ items.size ∧ s' = { s with heap := h₁, toks := tk₁ } ∧ J i m₁ others₁ ∧ Fr g L h₁ m₁ ∧ News g L h₁ ((It, o₁) :: (Li, lo) :: others₁) ∧ (o₁.cls = .type "list_iterator" ∧ o₁.data = .fields #[.ref Li, .int i 0]) ∧ (∀ q ∈ others₁, q.1 ≠ It)) ?_ (items.size + 1)
    ⟨0, m, others, o, s.heap, s.toks, rfl, Nat.zero_le _, rfl, h0, F, N, ⟨hoc, hod⟩, hap⟩ ht
  rintro k s' ⟨i, m₁, others₁, o₁, h₁, tk₁, rfl, hin, rfl, hJ, F₁, N₁, hR₁, hap₁⟩
  have st1 : h₁.IsListIter It Li i ∧ h₁.IsList Li items := ⟨⟨o₁, (N₁ _ (List.Mem.head _)).1, hR₁⟩, lst _ (N₁ _ (List.Mem.tail _ (List.Mem.head _))).1⟩
  have next : ∀ h₂ : Heap, (∀ b o, b ∉ [It] → h₁.get? b = some o → h₂.get? b = some o) → Fr g L h₂ m₁ ∧ News g L h₂ ((Li, lo) :: others₁) := fun h₂ hk =>
    ⟨⟨F₁.ns.at' fun o e => hk _ o (fun q => hItL (List.mem_singleton.mp q).symm) e, fun b o e => hk b o (gne b o e) (F₁.keep b o e), F₁.above⟩,
      fun q hq => ⟨hk _ _ (fun z => by
        rcases List.mem_cons.mp hq with rfl | hq
        · exact hne (List.mem_singleton.mp z)
        · exact hap₁ q hq (List.mem_singleton.mp z)) (N₁ q (List.Mem.tail _ hq)).1, (N₁ q (List.Mem.tail _ hq)).2⟩⟩
  by_cases hlt : i < items.size
  · refine W.item i _ _ _ hlt st1 fun v h₂ tk₂ hP hst hk => ?_
    obtain ⟨F₂, N₂⟩ := next h₂ hk
    obtain ⟨⟨o₂, ho₂, ho₃⟩, _⟩ := hst
    have N₃ : News g L h₂ ((It, o₂) :: (Li, lo) :: others₁) := fun q hq => by
      rcases List.mem_cons.mp hq with rfl | hq
      · exact ⟨ho₂, hItL, hIt⟩
      · exact N₂ q hq
    have st := step i m₁ others₁ o₂ h₂ tk₂ v hP hJ F₂ N₃ hap₁
    refine wpAny_mono st (fun _ s₂ h₂' => wpC_mono h₂' (fun f s₃ hf => ?_) fun _ _ e => e) fun _ _ e => e
    obtain ⟨rfl, m₂, others₂, h₃, tk₃, rfl, hJ₂, F₃, N₄, hap₂⟩ := hf
    exact ⟨items.size + 1 - (i + 1), by (first | lia | omega), i + 1, m₂, others₂, o₂, h₃, tk₃, rfl, hlt, rfl, hJ₂, F₃, N₄, ho₃, hap₂⟩
  · obtain rfl : i = items.size := by (first | lia | omega)
    refine W.done _ _ _ st1 fun h₂ tk₂ hk => ?_
    obtain ⟨F₂, N₂⟩ := next h₂ hk
    exact done _ _ _ _ hJ F₂ (fun q hq => N₂ q (List.Mem.tail _ hq))
end
end Mine

end TxtLR
section TxtC0
theorem Mine.Off.offC0 : True := by
  w_top off
  trivial
open PySem PySem.W PySem.Spec PySem.Calls PyProof.Rows
set_option Elab.async false
set_option maxRecDepth 100000
set_option maxHeartbeats 2000000
namespace Mine

theorem c87 {w : World} {A : Around} {s : Shared} {base g : Heap} {frs : List Env} {p : Program} {loose : List Str} {mean : ExcName → Option Value} {mg mb : Str → Option Value} {R : Result → Shared → Prop}
    (B : Below A base frs g) (X : (hd.heap_39 w.params).In g) (T : Top p loose mean mg mb g) (S : St g [] s.heap) (hdp : A.depth + 8 < 900)
    {a b n : Int} {ta tb tn : Tok} (h0 : 0 ≤ a) (hb : 0 < b) (hbit : (Builtin.Int.intBits a : Int) - n ≤ 4000) (hpy : Builtin.divisionGoesByPylong a b = false)
    (ret : ∀ x h' t1 t2 tk', @LE.le Nat _ s.heap.objs.size x → St g [(x, { cls := .type "tuple", data := .seq #[.int (a.fdiv b) t1, .int (a.fmod b) t2] })] h' → R (.ok (.ret (.ref x))) { s with heap := h', toks := tk' }) :
    codeAny (model PySem.Challenge.rw_nb0217_01.row.prog w) A (.call (.ref 87) ⟨[.int a ta, .int b tb, .int n tn], []⟩) R s := by
  revert X; k_fill; intro X
  refine' enterG S X T ?k6 ?k7 ?k8 ?k9 ?kB ?_ ?c2 ?c3 ?c4 ?c5
  (case k6 => k_is)
  (case k7 => k_is)
  (case k8 => show _ < 1000; (try dsimp only); first | exact rm0 hdp | (first | lia | omega))
  (case k9 => exact BindsTo.of_eq rfl)
  (case c5 => decide)
  (case kB => exact locs rfl)
  (case c2 => exact rfl)
  (case c3 => exact rfl)
  (case c4 => exact rfl)
  intro L' h' F' N' l1 hLs
  (try k_lt l1)
  (try dsimp only)
  (try k_fold)
  repeat' (first | (k_unfold; (try dsimp only)) | ((fail_if_success with_reducible show wpAny _ _ (PySem.call (Value.ref _) _ _) _ _ _); (fail_if_success with_reducible show wpAny _ _ (PySem.call (Value.builtin "divmod") _ _) _ _ _); first | walk1 | (dsimp only; walk1)))
  refine divmod_N (by assumption) (by assumption) (by (first | lia | omega)) ?_ (Or.inl hpy)
  intro h9 F9 N9
  have l9 := F'.ns.lt
  repeat' (first | (k_unfold; (try dsimp only)) | ((fail_if_success with_reducible show wpAny _ _ (PySem.call (Value.ref _) _ _) _ _ _); first | walk1 | (dsimp only; walk1)))
  exact ret _ _ _ _ _ (Nat.le_of_lt (by rw [hLs]; exact l9)) (St.of_fr F9 N9 (fun _ h => h))
end Mine

end TxtC0
section TxtC1
theorem Mine.Off.offC1 : True := by
  w_top off
  trivial

open PySem PySem.W PySem.Spec PySem.Calls PyProof.Rows
set_option Elab.async false
set_option maxRecDepth 100000
set_option maxHeartbeats 2000000
namespace Mine

theorem i2dInner {w : World} {p : Program} {loose : List Str} {mean : ExcName → Option Value} {mg mb : Str → Option Value}
    {f c' D ci cd cn : Addr} {fo oc oi od on : Obj} {qual : Str} {cvs : Array Value} {tq : Tok} {n : Nat} {tn : Tok}
    (hI : Inner w 101 1 [(Str.ofString "n", cn), (Str.ofString "inner", ci), (Str.ofString "a_digits", cd)] c' qual fo)
    (hoc : oc.data = .fields cvs) (hcv : cvs[1]? = some (.str qual tq)) (hoi : oi.data = .cell (some (.ref f))) (hod : od.data = .cell (some (.ref D))) (hon : on.data = .cell (some (.int n tn)))
    (hne : @LT.lt Nat _ cn cd ∧ @LT.lt Nat _ cd ci ∧ @LT.lt Nat _ ci D ∧ @LT.lt Nat _ D f ∧ ¬ @Eq Nat D c') (hn : 0 < n) (hn2 : n ≤ 60) (k : Nat) :
    ∀ {A : Around} {s : Shared} {base g : Heap} {frs : List Env} {R : Result → Shared → Prop} {vs : List Value} {e : Nat} {ds : List Int} {l r : Nat} {x : Int} {tx tl tr : Tok}
    (_ : Below A base frs g) (_ : (hd.heap_39 w.params).In g) (_ : Top p loose mean mg mb g) (_ : CodeHd g 100 96)
    (_ : St g [(f, fo), (c', oc), (D, listOf vs.toArray e), (ci, oi), (cd, od), (cn, on)] s.heap) (_ : IntsAre vs ds) (_ : A.depth + k < 900) (_ : A.units + 8 * k < 9000)
    (_ : 0 ≤ x) (_ : x < 2 ^ 60) (_ : l < r) (_ : r ≤ ds.length) (_ : r - l ≤ k) (_ : ds.length ≤ 60)
    (_ : ∀ vs' h' tk', IntsAre vs' (ds.take l ++ digs n k x (r - l) ++ ds.drop r) → St g [(f, fo), (c', oc), (D, listOf vs'.toArray e), (ci, oi), (cd, od), (cn, on)] h' → R (.ok (.ret .none)) { s with heap := h', toks := tk' }),
    codeAny (model PySem.Challenge.rw_nb0217_01.row.prog w) A (.call (.ref f) ⟨[.int x tx, .int l tl, .int r tr], []⟩) R s := by
  induction k with
  | zero => intro A s base g frs R vs e ds l r x tx tl tr B X T C S hi hdp hun hx hx2 hl hr hk hlen ret; (first | lia | omega)
  | succ k IH =>
  intro A s base g frs R vs e ds l r x tx tl tr B X T C S hi hdp hun hx hx2 hl hr hk hlen ret
  revert X; k_fill; intro X
  refine' Inner.open hI ?k1 ?k2 ?_
  (case k1 => k_is)
  (case k2 => exact rfl)
  intro idoc ipm ictv hfo
  subst hfo
  have hf1 := (S.hid _ (List.Mem.head _)).1
  have hf2 := codeRec_st S (List.Mem.tail _ (List.Mem.head _)) hoc hcv
  refine' enterX (cl := [(Str.ofString "n", cn), (Str.ofString "inner", ci), (Str.ofString "a_digits", cd)]) S T.nolimit hf1 rfl hf2 (by show A.depth < 1000; (first | lia | omega)) ?k9 ?kB ?_ ?c5 ?c2 ?c3 ?c4
  (case k9 => exact BindsTo.of_eq rfl)
  (case c5 => decide)
  (case kB => exact locs rfl)
  (case c2 => exact rfl)
  (case c3 => exact rfl)
  (case c4 => exact rfl)
  clear hf1 hf2 S
  intro L' h' F' N' l1 hLs
  (try k_lt l1)
  (try dsimp only)
  (try k_fold)
  have hh : (r - l) / 2 ≤ 60 := by (first | lia | omega)
  repeat' (first | (k_unfold; (try dsimp only)) | ((fail_if_success with_reducible show wpAny _ _ (PySem.call (Value.ref _) _ _) _ _ _); (fail_if_success with_reducible show wpAny _ _ (binaryOp Operator.RShift _ _) _ _ _); (fail_if_success with_reducible show wpAny _ _ (binaryOp Operator.LShift _ _) _ _ _); (fail_if_success with_reducible show wpAny _ _ (binaryOp Operator.Mult _ _) _ _ _); (fail_if_success with_reducible show wpAny _ _ (binaryOp Operator.BitXor _ _) _ _ _); first | walk1 | (dsimp only; walk1)))
  rotate_left
  · refine rshift_to (v := ((l + (r - l) / 2 : Nat) : Int)) (by decide) ?e1 ?_
    (case e1 => show ((l : Int) + (r : Int)).fdiv 2 = _; rw [Int.fdiv_eq_ediv_of_nonneg _ (by decide)]; (first | lia | omega))
    repeat' (first | (k_unfold; (try dsimp only)) | ((fail_if_success with_reducible show wpAny _ _ (PySem.call (Value.ref _) _ _) _ _ _); (fail_if_success with_reducible show wpAny _ _ (binaryOp Operator.RShift _ _) _ _ _); (fail_if_success with_reducible show wpAny _ _ (binaryOp Operator.LShift _ _) _ _ _); (fail_if_success with_reducible show wpAny _ _ (binaryOp Operator.Mult _ _) _ _ _); (fail_if_success with_reducible show wpAny _ _ (binaryOp Operator.BitXor _ _) _ _ _); first | walk1 | (dsimp only; walk1)))
    refine mul_to (v := (((r - l) / 2 * n : Nat) : Int)) ?e0 ?e1 ?_
    (case e0 => exact mulOk (by (first | lia | omega)) (by (first | lia | omega)))
    (case e1 => rw [Int.natCast_mul]; congr 1; (first | lia | omega))
    repeat' (first | (k_unfold; (try dsimp only)) | ((fail_if_success with_reducible show wpAny _ _ (PySem.call (Value.ref _) _ _) _ _ _); (fail_if_success with_reducible show wpAny _ _ (binaryOp Operator.RShift _ _) _ _ _); (fail_if_success with_reducible show wpAny _ _ (binaryOp Operator.LShift _ _) _ _ _); (fail_if_success with_reducible show wpAny _ _ (binaryOp Operator.Mult _ _) _ _ _); (fail_if_success with_reducible show wpAny _ _ (binaryOp Operator.BitXor _ _) _ _ _); first | walk1 | (dsimp only; walk1)))
    refine rshift_to (v := x / 2 ^ ((r - l) / 2 * n)) (by (first | lia | omega)) ?e1 ?_
    (case e1 => rw [Int.toNat_natCast]; exact Int.fdiv_eq_ediv_of_nonneg _ (Int.le_of_lt (pow_pos' _)))
    have hu0 : 0 ≤ x / 2 ^ ((r - l) / 2 * n) := Int.ediv_nonneg hx (Int.le_of_lt (pow_pos' _))
    have hu1 : x / 2 ^ ((r - l) / 2 * n) ≤ x := Int.ediv_le_self _ hx
    repeat' (first | (k_unfold; (try dsimp only)) | ((fail_if_success with_reducible show wpAny _ _ (PySem.call (Value.ref _) _ _) _ _ _); (fail_if_success with_reducible show wpAny _ _ (binaryOp Operator.RShift _ _) _ _ _); (fail_if_success with_reducible show wpAny _ _ (binaryOp Operator.LShift _ _) _ _ _); (fail_if_success with_reducible show wpAny _ _ (binaryOp Operator.Mult _ _) _ _ _); (fail_if_success with_reducible show wpAny _ _ (binaryOp Operator.BitXor _ _) _ _ _); first | walk1 | (dsimp only; walk1)))
    refine lshift_to (v := x / 2 ^ ((r - l) / 2 * n) * 2 ^ ((r - l) / 2 * n)) (by (first | lia | omega)) ?e0 ?e1 ?e2 ?_
    (case e0 => have : (r - l) / 2 * n ≤ 60 * 60 := Nat.mul_le_mul (by (first | lia | omega)) hn2; (first | lia | omega))
    (case e1 => (first | lia | omega))
    (case e2 => rw [Int.toNat_natCast])
    repeat' (first | (k_unfold; (try dsimp only)) | ((fail_if_success with_reducible show wpAny _ _ (PySem.call (Value.ref _) _ _) _ _ _); (fail_if_success with_reducible show wpAny _ _ (binaryOp Operator.RShift _ _) _ _ _); (fail_if_success with_reducible show wpAny _ _ (binaryOp Operator.LShift _ _) _ _ _); (fail_if_success with_reducible show wpAny _ _ (binaryOp Operator.Mult _ _) _ _ _); (fail_if_success with_reducible show wpAny _ _ (binaryOp Operator.BitXor _ _) _ _ _); first | walk1 | (dsimp only; walk1)))
    refine xor_to (xor_low hx _) ?_
    repeat' (first | (k_unfold; (try dsimp only)) | ((fail_if_success with_reducible show wpAny _ _ (PySem.call (Value.ref _) _ _) _ _ _); (fail_if_success with_reducible show wpAny _ _ (binaryOp Operator.RShift _ _) _ _ _); (fail_if_success with_reducible show wpAny _ _ (binaryOp Operator.LShift _ _) _ _ _); (fail_if_success with_reducible show wpAny _ _ (binaryOp Operator.Mult _ _) _ _ _); (fail_if_success with_reducible show wpAny _ _ (binaryOp Operator.BitXor _ _) _ _ _); first | walk1 | (dsimp only; walk1)))
    rename Fr _ _ _ _ => F9
    rename News _ _ _ _ => N9
    refine callG B F9 N9 rfl rfl _ (fun _ h => h) ?_
    intro g2 B2 st2 S2 back
    have hp := pow_pos' ((r - l) / 2 * n)
    have hm0 := Int.emod_nonneg x (Int.ne_of_gt hp)
    have hm1 := Int.emod_add_mul_ediv x (2 ^ ((r - l) / 2 * n))
    have hm2 : 0 ≤ 2 ^ ((r - l) / 2 * n) * (x / 2 ^ ((r - l) / 2 * n)) := Int.mul_nonneg (Int.le_of_lt hp) hu0
    refine IH B2 (X.keeps st2) (T.keeps st2) (C.keeps st2) S2 hi (by show A.depth + 1 + k < 900; (first | lia | omega)) (by show A.units + 3 + 8 * k < 9000; (first | lia | omega)) hm0 (by (first | lia | omega)) (by (first | lia | omega)) (by (first | lia | omega)) (by (first | lia | omega)) hlen ?_
    intro vs3 h3 tk3 hi3 S3
    obtain ⟨F3, N3⟩ := back _ _ S3
    replace N3 := N3 [] (fun _ h => nomatch h)
    clear back S3 S2 B2 st2 F9 N9 hi
    simp only [List.append_nil] at N3
    rw [Nat.add_sub_cancel_left] at hi3
    dsimp only
    repeat' (first | (k_unfold; (try dsimp only)) | ((fail_if_success with_reducible show wpAny _ _ (PySem.call (Value.ref _) _ _) _ _ _); (fail_if_success with_reducible show wpAny _ _ (binaryOp Operator.RShift _ _) _ _ _); (fail_if_success with_reducible show wpAny _ _ (binaryOp Operator.LShift _ _) _ _ _); (fail_if_success with_reducible show wpAny _ _ (binaryOp Operator.Mult _ _) _ _ _); (fail_if_success with_reducible show wpAny _ _ (binaryOp Operator.BitXor _ _) _ _ _); first | walk1 | (dsimp only; walk1)))
    refine callG B F3 N3 rfl rfl _ (fun _ h => h) ?_
    intro g2 B2 st2 S2 back
    have hl3 := splice_len (n := n) (k := k) (l := l) (h := (r - l) / 2) (x := x % 2 ^ ((r - l) / 2 * n)) (ds := ds) (by (first | lia | omega)) (by (first | lia | omega)) (by (first | lia | omega))
    refine IH B2 (X.keeps st2) (T.keeps st2) (C.keeps st2) S2 hi3 (by show A.depth + 1 + k < 900; (first | lia | omega)) (by show A.units + 3 + 8 * k < 9000; (first | lia | omega)) hu0 (by (first | lia | omega)) (by (first | lia | omega)) (by (first | lia | omega)) (by (first | lia | omega)) (by (first | lia | omega)) ?_
    intro vs4 h4 tk4 hi4 S4
    rw [splice_all hl (by (first | lia | omega)) hr (by (first | lia | omega))] at hi4
    obtain ⟨F4, N4⟩ := back _ _ S4
    replace N4 := N4 [] (fun _ h => nomatch h)
    clear back S4 S2 B2 st2 F3 N3 hi3
    simp only [List.append_nil] at N4
    dsimp only
    repeat' (first | (k_unfold; (try dsimp only)) | ((fail_if_success with_reducible show wpAny _ _ (PySem.call (Value.ref _) _ _) _ _ _); (fail_if_success with_reducible show wpAny _ _ (binaryOp Operator.RShift _ _) _ _ _); (fail_if_success with_reducible show wpAny _ _ (binaryOp Operator.LShift _ _) _ _ _); (fail_if_success with_reducible show wpAny _ _ (binaryOp Operator.Mult _ _) _ _ _); (fail_if_success with_reducible show wpAny _ _ (binaryOp Operator.BitXor _ _) _ _ _); first | walk1 | (dsimp only; walk1)))
    exact ret _ _ _ hi4 (St.of_fr F4 N4 (fun _ h => h))
  · rename Fr _ _ _ _ => F9
    rename News _ _ _ _ => N9
    rename IntsAre _ _ => hi9
    have hr1 : r = l + 1 := by (first | lia | omega)
    subst hr1
    rw [Int.toNat_natCast, splice_set (by (first | lia | omega))] at hi9
    rw [Int.toNat_natCast] at N9
    have hd9 : digs n (k + 1) x (l + 1 - l) = [x] := by
      rw [Nat.add_sub_cancel_left]; unfold digs; rw [if_pos (Nat.le_refl _)]
    rw [hd9] at ret
    exact ret _ _ _ hi9 (St.of_fr F9 N9 (fun _ h => h))
end Mine

end TxtC1
section TxtC2
theorem Mine.Off.offC2 : True := by
  w_top off
  trivial
open PySem PySem.W PySem.Spec PySem.Calls PyProof.Rows
set_option Elab.async false
set_option maxRecDepth 100000
set_option maxHeartbeats 2000000
namespace Mine

theorem c101a {w : World} {A : Around} {s : Shared} {base g : Heap} {frs : List Env} {p : Program} {loose : List Str} {mean : ExcName → Option Value} {mg mb : Str → Option Value} {R : Result → Shared → Prop}
    (B : Below A base frs g) (X : (hd.heap_39 w.params).In g) (T : Top p loose mean mg mb g) (C : CodeHd g 100 96) (S : St g [(96, tabObj #[])] s.heap) (hdp : A.depth + 100 < 900) (hun : A.units + 800 < 9000)
    {a : Int} {n : Nat} {ta tn : Tok} (h0 : 0 ≤ a) (h1 : a < 2 ^ 60) (hn : 0 < n) (hn2 : n ≤ 60)
    (ret : ∀ c0 t0 oc0 D vs ds h' tk', Tq 96 110 4 (Str.ofString "_int2digits.<locals>.inner") t0 c0 oc0 → @LE.le Nat _ s.heap.objs.size c0 → @LE.le Nat _ s.heap.objs.size D → ¬ @Eq Nat D c0 →
      IntsAre vs ds → val n ds = a → (∀ d ∈ ds, 0 ≤ d ∧ d ≤ a) → ds.length ≤ 60 → St g [(D, listOf vs.toArray 0), (96, t0), (c0, oc0)] h' → R (.ok (.ret (.ref D))) { s with heap := h', toks := tk' }) :
    codeAny (model PySem.Challenge.rw_nb0217_01.row.prog w) A (.call (.ref 101) ⟨[.int a ta, .int n tn], []⟩) R s := by
  obtain ⟨k, hk⟩ : ∃ k : Nat, k = (Builtin.Int.intBits a + n - 1) / n := ⟨_, rfl⟩
  revert X; k_fill; intro X
  refine' enterC S X T ?k6 ?k7 ?k8 ?k9 ?kB ?kD ?_ ?c2 ?c3 ?c4
  (case k6 => k_is)
  (case k7 => k_is)
  (case k8 => show _ < 1000; (try dsimp only); first | exact rm0 hdp | (first | lia | omega))
  (case k9 => exact BindsTo.of_eq rfl)
  (case kB => exact rfl)
  (case kD => decide +kernel)
  (case c2 => exact rfl)
  (case c3 => exact rfl)
  (case c4 => exact rfl)
  intro L' h' tk' cells' F' N' Y' l1 hLs
  (try k_lt l1)
  k_cells Y'
  (try simp only [List.cons_append, List.nil_append] at N')
  (try dsimp only)
  (try k_fold)
  clear S
  repeat' (first | (k_unfold; (try dsimp only)) | ((fail_if_success with_reducible show wpAny _ _ (PySem.call (Value.ref _) _ _) _ _ _); (fail_if_success with_reducible show wpAny _ _ (binaryOp Operator.FloorDiv _ _) _ _ _); first | walk1 | (dsimp only; walk1)))
  refine fdiv_to (v := (k : Nat)) (by (first | lia | omega)) (PyProof.noPylong_small (by (first | lia | omega))) ?e1 ?_
  (case e1 => rw [hk]; exact cnt_eq hn)
  have hk60 : k ≤ 60 := by rw [hk]; exact cnt_le (bits_le h0 h1) hn
  repeat' (first | (k_unfold; (try dsimp only)) | ((fail_if_success with_reducible show wpAny _ _ (PySem.call (Value.ref _) _ _) _ _ _); (fail_if_success with_reducible show wpAny _ _ (binaryOp Operator.FloorDiv _ _) _ _ _); first | walk1 | (dsimp only; walk1)))
  · rename Fr _ _ _ _ => F9
    rename News _ _ _ _ => N9
    rename List.length _ = _ => hn1
    rename IntsAre _ _ => hi9
    subst hn1
    refine callG B F9 N9 rfl rfl (pick N9 (fun n => (n.eraseIdx 3).take 6)) (fun p hp => List.mem_of_mem_eraseIdx (List.mem_of_mem_take hp)) ?_
    intro g2 B2 st2 S2 back
    dsimp only [pick, List.eraseIdx, List.take] at S2 back
    show codeAny _ _ (Code.call _ ⟨[_, Value.int ((0 : Nat) : Int) _, _], []⟩) _ _
    refine' i2dInner ?I ?oc ?cv ?oi ?od ?on ?ne hn hn2 k ?B ?X ?T ?C ?S ?hi ?d ?u h0 h1 ?lr ?r ?rl ?l ?_
    (case B => exact B2)
    (case X => exact X.keeps st2)
    (case T => exact T.keeps st2)
    (case C => exact C.keeps st2)
    (case S => exact S2)
    (case hi => exact hi9)
    (case I => refine' Inner.mk ?a ?b; (case a => k_is); (case b => exact rfl))
    (case oc => assumption)
    (case cv => assumption)
    (case oi => assumption)
    (case od => assumption)
    (case on => assumption)
    (case ne => refine ⟨?_, ?_, ?_, ?_, ?_⟩ <;> (first | lia | omega))
    (case d => show A.depth + 1 + k < 900; (first | lia | omega))
    (case u => show A.units + 3 + 8 * k < 9000; (first | lia | omega))
    (case lr => rw [KM.len_rep, Int.toNat_natCast]; have := cnt_pos (bits_pos (by assumption : a ≠ 0)) hn; simp only [List.length_cons, List.length_nil]; (first | lia | omega))
    (case r => exact Nat.le_refl _)
    (case rl => rw [KM.len_rep, Int.toNat_natCast]; simp only [List.length_cons, List.length_nil]; (first | lia | omega))
    (case l => rw [KM.len_rep, Int.toNat_natCast]; simp only [List.length_cons, List.length_nil]; (first | lia | omega))
    intro vs3 h3 tk3 hi3 S3
    obtain ⟨F3, N3⟩ := back _ _ S3
    replace N3 := N3 (pick N9 (fun n => n.drop 7)) (by
      dsimp only [pick, List.drop]
      intro p hp
      rw [List.mem_singleton] at hp
      subst hp
      refine ⟨by k_mem, ?_⟩
      simp only [List.map_cons, List.map_nil, List.mem_cons, List.not_mem_nil, or_false, not_or]
      refine ⟨?_, ?_, ?_, ?_, ?_, ?_⟩ <;> (refine neN ?_; (first | lia | omega)))
    dsimp only [pick, List.drop, List.cons_append, List.nil_append] at N3
    clear back S3 S2 B2 st2 F9 N9 hi9
    dsimp only
    repeat' (first | (k_unfold; (try dsimp only)) | ((fail_if_success with_reducible show wpAny _ _ (PySem.call (Value.ref _) _ _) _ _ _); (fail_if_success with_reducible show wpAny _ _ (binaryOp Operator.FloorDiv _ _) _ _ _); first | walk1 | (dsimp only; walk1)))
    dsimp only
    have hlen : (List.replicate ((k : Int)).toNat [(0 : Int)]).flatten.length = k := by rw [KM.len_rep, Int.toNat_natCast]; simp only [List.length_cons, List.length_nil]; (first | lia | omega)
    have hkp : 1 ≤ k := by rw [hk]; exact cnt_pos (bits_pos (by assumption)) hn
    rw [List.take_zero, List.nil_append, List.drop_length, List.append_nil, Nat.sub_zero, hlen] at hi3
    simp only [Array.empty_append] at N3
    refine' ret _ _ _ _ _ _ _ _ (.inr ⟨rfl, _, _, ?q1, ?q2⟩) ?z1 ?z2 ?z3 hi3 (digs_val n k a k hkp (by (first | lia | omega))) (digs_bound n k a k h0) (by rw [digs_length n k a k hkp (by (first | lia | omega))]; exact hk60) (St.of_fr F3 N3 (List.forall_mem_cons.mpr ⟨?m1, List.forall_mem_cons.mpr ⟨?m2, List.forall_mem_cons.mpr ⟨?m3, List.forall_mem_nil _⟩⟩⟩))
    (case q1 => assumption)
    (case q2 => assumption)
    (case m1 => k_mem)
    (case m2 => k_mem)
    (case m3 => k_mem)
    (case z1 => (first | lia | omega))
    (case z2 => (first | lia | omega))
    (case z3 => (first | lia | omega))
  · have ha : a = 0 := by assumption
    subst ha
    have hk0 : k = 0 := by rw [hk, bits_zero]; exact cnt_zero hn
    subst hk0
    rename Fr _ _ _ _ => F9
    rename News _ _ _ _ => N9
    dsimp only
    simp only [Array.empty_append] at N9
    refine' ret _ _ _ _ [] [] _ _ (.inr ⟨rfl, _, _, ?q1, ?q2⟩) ?z1 ?z2 ?z3 .nil rfl (fun _ h => nomatch h) (Nat.zero_le _) (St.of_fr F9 N9 (List.forall_mem_cons.mpr ⟨?m1, List.forall_mem_cons.mpr ⟨?m2, List.forall_mem_cons.mpr ⟨?m3, List.forall_mem_nil _⟩⟩⟩))
    (case q1 => assumption)
    (case q2 => assumption)
    (case m1 => k_mem)
    (case m2 => k_mem)
    (case m3 => k_mem)
    (case z1 => (first | lia | omega))
    (case z2 => (first | lia | omega))
    (case z3 => (first | lia | omega))
theorem c101b {w : World} {A : Around} {s : Shared} {base g : Heap} {frs : List Env} {p : Program} {loose : List Str} {mean : ExcName → Option Value} {mg mb : Str → Option Value} {R : Result → Shared → Prop}
    (B : Below A base frs g) (X : (hd.heap_39 w.params).In g) (T : Top p loose mean mg mb g) (C : CodeHd g 100 96) {c0 : Addr} {oc0 : Obj} {cvs : Array Value} {tq : Tok} (hoc : oc0.data = .fields cvs) (hcv : cvs[1]? = some (.str (Str.ofString "_int2digits.<locals>.inner") tq)) (S : St g [(96, tabObj #[rawInt (110 : Nat), rawInt (4 : Nat), .ref c0]), (c0, oc0)] s.heap) (hdp : A.depth + 100 < 900) (hun : A.units + 800 < 9000)
    {a : Int} {n : Nat} {ta tn : Tok} (h0 : 0 ≤ a) (h1 : a < 2 ^ 60) (hn : 0 < n) (hn2 : n ≤ 60)
    (ret : ∀ D vs ds h' tk', @LE.le Nat _ s.heap.objs.size D → ¬ @Eq Nat D c0 →
      IntsAre vs ds → val n ds = a → (∀ d ∈ ds, 0 ≤ d ∧ d ≤ a) → ds.length ≤ 60 → St g [(D, listOf vs.toArray 0), (96, tabObj #[rawInt (110 : Nat), rawInt (4 : Nat), .ref c0]), (c0, oc0)] h' → R (.ok (.ret (.ref D))) { s with heap := h', toks := tk' }) :
    codeAny (model PySem.Challenge.rw_nb0217_01.row.prog w) A (.call (.ref 101) ⟨[.int a ta, .int n tn], []⟩) R s := by
  have hc96 := Tq.apart S hoc hcv
  obtain ⟨k, hk⟩ : ∃ k : Nat, k = (Builtin.Int.intBits a + n - 1) / n := ⟨_, rfl⟩
  revert X; k_fill; intro X
  refine' enterC S X T ?k6 ?k7 ?k8 ?k9 ?kB ?kD ?_ ?c2 ?c3 ?c4
  (case k6 => k_is)
  (case k7 => k_is)
  (case k8 => show _ < 1000; (try dsimp only); first | exact rm0 hdp | (first | lia | omega))
  (case k9 => exact BindsTo.of_eq rfl)
  (case kB => exact rfl)
  (case kD => decide +kernel)
  (case c2 => exact rfl)
  (case c3 => exact rfl)
  (case c4 => exact rfl)
  intro L' h' tk' cells' F' N' Y' l1 hLs
  (try k_lt l1)
  k_cells Y'
  (try simp only [List.cons_append, List.nil_append] at N')
  (try dsimp only)
  (try k_fold)
  clear S
  repeat' (first | (k_unfold; (try dsimp only)) | ((fail_if_success with_reducible show wpAny _ _ (PySem.call (Value.ref _) _ _) _ _ _); (fail_if_success with_reducible show wpAny _ _ (binaryOp Operator.FloorDiv _ _) _ _ _); first | walk1 | (dsimp only; walk1)))
  refine fdiv_to (v := (k : Nat)) (by (first | lia | omega)) (PyProof.noPylong_small (by (first | lia | omega))) ?e1 ?_
  (case e1 => rw [hk]; exact cnt_eq hn)
  have hk60 : k ≤ 60 := by rw [hk]; exact cnt_le (bits_le h0 h1) hn
  repeat' (first | (k_unfold; (try dsimp only)) | ((fail_if_success with_reducible show wpAny _ _ (PySem.call (Value.ref _) _ _) _ _ _); (fail_if_success with_reducible show wpAny _ _ (binaryOp Operator.FloorDiv _ _) _ _ _); first | walk1 | (dsimp only; walk1)))
  · rename Fr _ _ _ _ => F9
    rename News _ _ _ _ => N9
    rename List.length _ = _ => hn1
    rename IntsAre _ _ => hi9
    subst hn1
    refine callG B F9 N9 rfl rfl (pick N9 (fun n => match n with | [a, b, _, d, e, f, _, h] => [a, h, b, d, e, f] | _ => [])) (by dsimp only [pick]; repeat (first | exact List.forall_mem_nil _ | refine List.forall_mem_cons.mpr ⟨by k_mem, ?_⟩)) ?_
    intro g2 B2 st2 S2 back
    dsimp only [pick] at S2 back
    show codeAny _ _ (Code.call _ ⟨[_, Value.int ((0 : Nat) : Int) _, _], []⟩) _ _
    refine' i2dInner ?I ?oc ?cv ?oi ?od ?on ?ne hn hn2 k ?B ?X ?T ?C ?S ?hi ?d ?u h0 h1 ?lr ?r ?rl ?l ?_
    (case B => exact B2)
    (case X => exact X.keeps st2)
    (case T => exact T.keeps st2)
    (case C => exact C.keeps st2)
    (case S => exact S2)
    (case hi => exact hi9)
    (case I => refine' Inner.mk ?a ?b; (case a => k_is); (case b => exact rfl))
    (case oc => assumption)
    (case cv => assumption)
    (case oi => assumption)
    (case od => assumption)
    (case on => assumption)
    (case ne => refine ⟨?_, ?_, ?_, ?_, ?_⟩ <;> (first | lia | omega))
    (case d => show A.depth + 1 + k < 900; (first | lia | omega))
    (case u => show A.units + 3 + 8 * k < 9000; (first | lia | omega))
    (case lr => rw [KM.len_rep, Int.toNat_natCast]; have := cnt_pos (bits_pos (by assumption : a ≠ 0)) hn; simp only [List.length_cons, List.length_nil]; (first | lia | omega))
    (case r => exact Nat.le_refl _)
    (case rl => rw [KM.len_rep, Int.toNat_natCast]; simp only [List.length_cons, List.length_nil]; (first | lia | omega))
    (case l => rw [KM.len_rep, Int.toNat_natCast]; simp only [List.length_cons, List.length_nil]; (first | lia | omega))
    intro vs3 h3 tk3 hi3 S3
    obtain ⟨F3, N3⟩ := back _ _ S3
    replace N3 := N3 (pick N9 (fun n => (n.drop 6).take 1)) (by
      dsimp only [pick, List.drop, List.take]
      intro p hp
      rw [List.mem_singleton] at hp
      subst hp
      refine ⟨by k_mem, ?_⟩
      simp only [List.map_cons, List.map_nil, List.mem_cons, List.not_mem_nil, or_false, not_or]
      refine ⟨?_, ?_, ?_, ?_, ?_, ?_⟩ <;> (refine neN ?_; (first | lia | omega)))
    dsimp only [pick, List.drop, List.take, List.cons_append, List.nil_append] at N3
    clear back S3 S2 B2 st2 F9 N9 hi9
    dsimp only
    repeat' (first | (k_unfold; (try dsimp only)) | ((fail_if_success with_reducible show wpAny _ _ (PySem.call (Value.ref _) _ _) _ _ _); (fail_if_success with_reducible show wpAny _ _ (binaryOp Operator.FloorDiv _ _) _ _ _); first | walk1 | (dsimp only; walk1)))
    dsimp only
    have hlen : (List.replicate ((k : Int)).toNat [(0 : Int)]).flatten.length = k := by rw [KM.len_rep, Int.toNat_natCast]; simp only [List.length_cons, List.length_nil]; (first | lia | omega)
    have hkp : 1 ≤ k := by rw [hk]; exact cnt_pos (bits_pos (by assumption)) hn
    rw [List.take_zero, List.nil_append, List.drop_length, List.append_nil, Nat.sub_zero, hlen] at hi3
    refine' ret _ _ _ _ _ ?z2 ?z3 hi3 (digs_val n k a k hkp (by (first | lia | omega))) (digs_bound n k a k h0) (by rw [digs_length n k a k hkp (by (first | lia | omega))]; exact hk60) (St.of_fr F3 N3 (List.forall_mem_cons.mpr ⟨?m1, List.forall_mem_cons.mpr ⟨?m2, List.forall_mem_cons.mpr ⟨?m3, List.forall_mem_nil _⟩⟩⟩))
    (case m1 => k_mem)
    (case m2 => k_mem)
    (case m3 => k_mem)
    (case z2 => (first | lia | omega))
    (case z3 => (first | lia | omega))
  · have ha : a = 0 := by assumption
    subst ha
    have hk0 : k = 0 := by rw [hk, bits_zero]; exact cnt_zero hn
    subst hk0
    rename Fr _ _ _ _ => F9
    rename News _ _ _ _ => N9
    dsimp only
    refine' ret _ [] [] _ _ ?z2 ?z3 .nil rfl (fun _ h => nomatch h) (Nat.zero_le _) (St.of_fr F9 N9 (List.forall_mem_cons.mpr ⟨?m1, List.forall_mem_cons.mpr ⟨?m2, List.forall_mem_cons.mpr ⟨?m3, List.forall_mem_nil _⟩⟩⟩))
    (case m1 => k_mem)
    (case m2 => k_mem)
    (case m3 => k_mem)
    (case z2 => (first | lia | omega))
    (case z3 => (first | lia | omega))
theorem c101 {w : World} {A : Around} {s : Shared} {base g : Heap} {frs : List Env} {p : Program} {loose : List Str} {mean : ExcName → Option Value} {mg mb : Str → Option Value} {R : Result → Shared → Prop}
    (B : Below A base frs g) (X : (hd.heap_39 w.params).In g) (T : Top p loose mean mg mb g) (C : CodeHd g 100 96) {t0 : Obj} {c0 : Addr} {oc0 : Obj} (hq : Tq 96 110 4 (Str.ofString "_int2digits.<locals>.inner") t0 c0 oc0) (S : St g [(96, t0), (c0, oc0)] s.heap) (hdp : A.depth + 100 < 900) (hun : A.units + 800 < 9000)
    {a : Int} {n : Nat} {ta tn : Tok} (h0 : 0 ≤ a) (h1 : a < 2 ^ 60) (hn : 0 < n) (hn2 : n ≤ 60)
    (ret : ∀ c1 t1 oc1 D vs ds h' tk', Tq 96 110 4 (Str.ofString "_int2digits.<locals>.inner") t1 c1 oc1 → (@Eq Nat c1 c0 ∨ @LE.le Nat _ s.heap.objs.size c1) → @LE.le Nat _ s.heap.objs.size D → ¬ @Eq Nat D c1 →
      IntsAre vs ds → val n ds = a → (∀ d ∈ ds, 0 ≤ d ∧ d ≤ a) → ds.length ≤ 60 → St g [(D, listOf vs.toArray 0), (96, t1), (c1, oc1)] h' → R (.ok (.ret (.ref D))) { s with heap := h', toks := tk' }) :
    codeAny (model PySem.Challenge.rw_nb0217_01.row.prog w) A (.call (.ref 101) ⟨[.int a ta, .int n tn], []⟩) R s := by
  rcases hq with ⟨rfl, rfl, rfl⟩ | ⟨rfl, cvs, tq, hoc, hcv⟩
  · exact c101a B X T C (S.sub (List.forall_mem_cons.mpr ⟨.head _, List.forall_mem_nil _⟩)) hdp hun h0 h1 hn hn2 (fun c1 t1 oc1 D vs ds h' tk' q z1 => ret c1 t1 oc1 D vs ds h' tk' q (.inr z1))
  · exact c101b B X T C hoc hcv S hdp hun h0 h1 hn hn2 (fun D vs ds h' tk' => ret c0 _ oc0 D vs ds h' tk' (.inr ⟨rfl, cvs, tq, hoc, hcv⟩) (.inl rfl))
end Mine

end TxtC2
section TxtC3
theorem Mine.Off.offC3 : True := by
  w_top off
  trivial
open PySem PySem.W PySem.Spec PySem.Calls PyProof.Rows
set_option Elab.async false
set_option maxRecDepth 100000
set_option maxHeartbeats 2000000
namespace Mine

theorem d2iInner {w : World} {p : Program} {loose : List Str} {mean : ExcName → Option Value} {mg mb : Str → Option Value}
    {f c' D ci cd cn : Addr} {fo oc oi od on : Obj} {qual : Str} {cvs : Array Value} {tq : Tok} {n : Nat} {tn : Tok}
    (hI : Inner w 108 0 [(Str.ofString "n", cn), (Str.ofString "inner", ci), (Str.ofString "digits", cd)] c' qual fo)
    (hoc : oc.data = .fields cvs) (hcv : cvs[1]? = some (.str qual tq)) (hoi : oi.data = .cell (some (.ref f))) (hod : od.data = .cell (some (.ref D))) (hon : on.data = .cell (some (.int n tn)))
    (hn : 0 < n) (hn2 : n ≤ 60) (k : Nat) :
    ∀ {A : Around} {s : Shared} {base g : Heap} {frs : List Env} {R : Result → Shared → Prop} {vs : List Value} {e : Nat} {ds : List Int} {l r : Nat} {tl tr : Tok}
    (_ : Below A base frs g) (_ : (hd.heap_39 w.params).In g) (_ : Top p loose mean mg mb g) (_ : CodeHd g 107 103)
    (_ : St g [(f, fo), (c', oc), (D, listOf vs.toArray e), (ci, oi), (cd, od), (cn, on)] s.heap) (_ : IntsAre vs ds) (_ : A.depth + k < 900) (_ : A.units + 8 * k < 9000)
    (_ : ∀ d ∈ ds, 0 ≤ d) (_ : val n (part ds l (r - l)) < 2 ^ 60) (_ : l < r) (_ : r ≤ ds.length) (_ : r - l ≤ k) (_ : ds.length ≤ 60)
    (_ : ∀ h' t' tk', St g [(f, fo), (c', oc), (D, listOf vs.toArray e), (ci, oi), (cd, od), (cn, on)] h' → R (.ok (.ret (.int (val n (part ds l (r - l))) t'))) { s with heap := h', toks := tk' }),
    codeAny (model PySem.Challenge.rw_nb0217_01.row.prog w) A (.call (.ref f) ⟨[.int l tl, .int r tr], []⟩) R s := by
  induction k with
  | zero => intro A s base g frs R vs e ds l r tl tr B X T C S hi hdp hun hx hx2 hl hr hk hlen ret; (first | lia | omega)
  | succ k IH =>
  intro A s base g frs R vs e ds l r tl tr B X T C S hi hdp hun hx hx2 hl hr hk hlen ret
  revert X; k_fill; intro X
  refine' Inner.open hI ?k1 ?k2 ?_
  (case k1 => k_is)
  (case k2 => exact rfl)
  intro idoc ipm ictv hfo
  subst hfo
  have hf1 := (S.hid _ (List.Mem.head _)).1
  have hf2 := codeRec_st S (List.Mem.tail _ (List.Mem.head _)) hoc hcv
  refine' enterX (cl := [(Str.ofString "n", cn), (Str.ofString "inner", ci), (Str.ofString "digits", cd)]) S T.nolimit hf1 rfl hf2 (by show A.depth < 1000; (first | lia | omega)) ?k9 ?kB ?_ ?c5 ?c2 ?c3 ?c4
  (case k9 => exact BindsTo.of_eq rfl)
  (case c5 => decide)
  (case kB => exact locs rfl)
  (case c2 => exact rfl)
  (case c3 => exact rfl)
  (case c4 => exact rfl)
  clear hf1 hf2 S
  intro L' h' F' N' l1 hLs
  (try k_lt l1)
  (try dsimp only)
  (try k_fold)
  have hh : (r - l) / 2 ≤ 60 := by (first | lia | omega)
  repeat' (first | (k_unfold; (try dsimp only)) | ((fail_if_success with_reducible show wpAny _ _ (PySem.call (Value.ref _) _ _) _ _ _); (fail_if_success with_reducible show wpAny _ _ (binaryOp Operator.RShift _ _) _ _ _); (fail_if_success with_reducible show wpAny _ _ (binaryOp Operator.LShift _ _) _ _ _); (fail_if_success with_reducible show wpAny _ _ (binaryOp Operator.Mult _ _) _ _ _); (fail_if_success with_reducible show wpAny _ _ (binaryOp Operator.BitXor _ _) _ _ _); first | walk1 | (dsimp only; walk1)))
  · have hr1 : r = l + 1 := by (first | lia | omega)
    subst hr1
    rename Fr _ _ _ _ => F9
    rename News _ _ _ _ => N9
    rw [Nat.add_sub_cancel_left, part_one n (by (first | lia | omega))] at ret
    rw [Int.toNat_natCast]
    exact ret _ _ _ (St.of_fr F9 N9 (fun _ h => h))
  · obtain ⟨b1, b2, b3, b4⟩ := part_bounds hx hl hr hx2
    refine rshift_to (v := ((l + (r - l) / 2 : Nat) : Int)) (by decide) ?e1 ?_
    (case e1 => show ((l : Int) + (r : Int)).fdiv 2 = _; rw [Int.fdiv_eq_ediv_of_nonneg _ (by decide)]; (first | lia | omega))
    repeat' (first | (k_unfold; (try dsimp only)) | ((fail_if_success with_reducible show wpAny _ _ (PySem.call (Value.ref _) _ _) _ _ _); (fail_if_success with_reducible show wpAny _ _ (binaryOp Operator.RShift _ _) _ _ _); (fail_if_success with_reducible show wpAny _ _ (binaryOp Operator.LShift _ _) _ _ _); (fail_if_success with_reducible show wpAny _ _ (binaryOp Operator.Mult _ _) _ _ _); (fail_if_success with_reducible show wpAny _ _ (binaryOp Operator.BitXor _ _) _ _ _); first | walk1 | (dsimp only; walk1)))
    refine mul_to (v := (((r - l) / 2 * n : Nat) : Int)) ?e0 ?e1 ?_
    (case e0 => exact mulOk (by (first | lia | omega)) (by (first | lia | omega)))
    (case e1 => rw [Int.natCast_mul]; congr 1; (first | lia | omega))
    repeat' (first | (k_unfold; (try dsimp only)) | ((fail_if_success with_reducible show wpAny _ _ (PySem.call (Value.ref _) _ _) _ _ _); (fail_if_success with_reducible show wpAny _ _ (binaryOp Operator.RShift _ _) _ _ _); (fail_if_success with_reducible show wpAny _ _ (binaryOp Operator.LShift _ _) _ _ _); (fail_if_success with_reducible show wpAny _ _ (binaryOp Operator.Mult _ _) _ _ _); (fail_if_success with_reducible show wpAny _ _ (binaryOp Operator.BitXor _ _) _ _ _); first | walk1 | (dsimp only; walk1)))
    rename Fr _ _ _ _ => F9
    rename News _ _ _ _ => N9
    refine callG B F9 N9 rfl rfl _ (fun _ h => h) ?_
    intro g2 B2 st2 S2 back
    refine IH B2 (X.keeps st2) (T.keeps st2) (C.keeps st2) S2 hi (by show A.depth + 1 + k < 900; (first | lia | omega)) (by show A.units + 3 + 8 * k < 9000; (first | lia | omega)) hx b4 (by (first | lia | omega)) (by (first | lia | omega)) (by (first | lia | omega)) (by (first | lia | omega)) ?_
    intro h3 t3 tk3 S3
    obtain ⟨F3, N3⟩ := back _ _ S3
    replace N3 := N3 [] (fun _ h => nomatch h)
    clear back S3 S2 B2 st2 F9 N9
    simp only [List.append_nil] at N3
    dsimp only
    repeat' (first | (k_unfold; (try dsimp only)) | ((fail_if_success with_reducible show wpAny _ _ (PySem.call (Value.ref _) _ _) _ _ _); (fail_if_success with_reducible show wpAny _ _ (binaryOp Operator.RShift _ _) _ _ _); (fail_if_success with_reducible show wpAny _ _ (binaryOp Operator.LShift _ _) _ _ _); (fail_if_success with_reducible show wpAny _ _ (binaryOp Operator.Mult _ _) _ _ _); (fail_if_success with_reducible show wpAny _ _ (binaryOp Operator.BitXor _ _) _ _ _); first | walk1 | (dsimp only; walk1)))
    refine lshift_to (by (first | lia | omega)) ?e0 ?e1 rfl ?_
    (case e0 => have : (r - l) / 2 * n ≤ 60 * 60 := Nat.mul_le_mul (by (first | lia | omega)) hn2; (first | lia | omega))
    (case e1 => (first | lia | omega))
    rw [Int.toNat_natCast]
    repeat' (first | (k_unfold; (try dsimp only)) | ((fail_if_success with_reducible show wpAny _ _ (PySem.call (Value.ref _) _ _) _ _ _); (fail_if_success with_reducible show wpAny _ _ (binaryOp Operator.RShift _ _) _ _ _); (fail_if_success with_reducible show wpAny _ _ (binaryOp Operator.LShift _ _) _ _ _); (fail_if_success with_reducible show wpAny _ _ (binaryOp Operator.Mult _ _) _ _ _); (fail_if_success with_reducible show wpAny _ _ (binaryOp Operator.BitXor _ _) _ _ _); first | walk1 | (dsimp only; walk1)))
    refine callG B F3 N3 rfl rfl _ (fun _ h => h) ?_
    intro g2 B2 st2 S2 back
    have e5 : l + (r - l) / 2 - l = (r - l) / 2 := by (first | lia | omega)
    refine IH B2 (X.keeps st2) (T.keeps st2) (C.keeps st2) S2 hi (by show A.depth + 1 + k < 900; (first | lia | omega)) (by show A.units + 3 + 8 * k < 9000; (first | lia | omega)) hx (by rw [e5]; exact b2) (by (first | lia | omega)) (by (first | lia | omega)) (by (first | lia | omega)) (by (first | lia | omega)) ?_
    intro h4 t4 tk4 S4
    obtain ⟨F4, N4⟩ := back _ _ S4
    replace N4 := N4 [] (fun _ h => nomatch h)
    clear back S4 S2 B2 st2 F3 N3
    simp only [List.append_nil] at N4
    rw [e5]
    dsimp only
    repeat' (first | (k_unfold; (try dsimp only)) | ((fail_if_success with_reducible show wpAny _ _ (PySem.call (Value.ref _) _ _) _ _ _); (fail_if_success with_reducible show wpAny _ _ (binaryOp Operator.RShift _ _) _ _ _); (fail_if_success with_reducible show wpAny _ _ (binaryOp Operator.LShift _ _) _ _ _); (fail_if_success with_reducible show wpAny _ _ (binaryOp Operator.Mult _ _) _ _ _); (fail_if_success with_reducible show wpAny _ _ (binaryOp Operator.BitXor _ _) _ _ _); first | walk1 | (dsimp only; walk1)))
    dsimp only
    rw [part_val hl hr, Int.add_comm] at ret
    exact ret _ _ _ (St.of_fr F4 N4 (fun _ h => h))
end Mine

end TxtC3
section TxtC4
theorem Mine.Off.offC4 : True := by
  w_top off
  trivial
open PySem PySem.W PySem.Spec PySem.Calls PyProof.Rows
set_option Elab.async false
set_option maxRecDepth 100000
set_option maxHeartbeats 2000000
namespace Mine

theorem c108a {w : World} {A : Around} {s : Shared} {base g : Heap} {frs : List Env} {p : Program} {loose : List Str} {mean : ExcName → Option Value} {mg mb : Str → Option Value} {R : Result → Shared → Prop}
    (B : Below A base frs g) (X : (hd.heap_39 w.params).In g) (T : Top p loose mean mg mb g) (C : CodeHd g 107 103) {D : Addr} {vs : List Value} {e : Nat} {ds : List Int} (hne : ¬ @Eq Nat D 103) (S : St g [(D, listOf vs.toArray e), (103, tabObj #[])] s.heap) (hi : IntsAre vs ds) (hdp : A.depth + 100 < 900) (hun : A.units + 800 < 9000)
    {n : Nat} {tn : Tok} (h0 : ∀ d ∈ ds, 0 ≤ d) (h1 : val n ds < 2 ^ 60) (hn : 0 < n) (hn2 : n ≤ 60) (hlen : ds.length ≤ 60)
    (ret : ∀ c0 t0 oc0 h' t' tk', Tq 103 125 4 (Str.ofString "_digits2int.<locals>.inner") t0 c0 oc0 → @LE.le Nat _ s.heap.objs.size c0 →
      St g [(D, listOf vs.toArray e), (103, t0), (c0, oc0)] h' → R (.ok (.ret (.int (val n ds) t'))) { s with heap := h', toks := tk' }) :
    codeAny (model PySem.Challenge.rw_nb0217_01.row.prog w) A (.call (.ref 108) ⟨[.ref D, .int n tn], []⟩) R s := by
  revert X; k_fill; intro X
  refine' enterC S X T ?k6 ?k7 ?k8 ?k9 ?kB ?kD ?_ ?c2 ?c3 ?c4
  (case k6 => k_is)
  (case k7 => k_is)
  (case k8 => show _ < 1000; (try dsimp only); first | exact rm0 hdp | (first | lia | omega))
  (case k9 => exact BindsTo.of_eq rfl)
  (case kB => exact rfl)
  (case kD => decide +kernel)
  (case c2 => exact rfl)
  (case c3 => exact rfl)
  (case c4 => exact rfl)
  intro L' h' tk' cells' F' N' Y' l1 hLs
  (try k_lt l1)
  k_cells Y'
  (try simp only [List.cons_append, List.nil_append] at N')
  (try dsimp only)
  (try k_fold)
  clear S
  repeat' (first | (k_unfold; (try dsimp only)) | ((fail_if_success with_reducible show wpAny _ _ (PySem.call (Value.ref _) _ _) _ _ _); first | walk1 | (dsimp only; walk1)))
  · rename Fr _ _ _ _ => F9
    rename News _ _ _ _ => N9
    refine callG B F9 N9 rfl rfl (pick N9 (fun n => match n with | [a, b, c, d, e, f, _] => [a, b, f, c, e, d] | _ => [])) (by dsimp only [pick]; repeat (first | exact List.forall_mem_nil _ | refine List.forall_mem_cons.mpr ⟨by k_mem, ?_⟩)) ?_
    intro g2 B2 st2 S2 back
    dsimp only [pick] at S2 back
    show codeAny _ _ (Code.call _ ⟨[Value.int ((0 : Nat) : Int) _, _], []⟩) _ _
    refine' d2iInner ?I ?oc ?cv ?oi ?od ?on hn hn2 ds.length ?B ?X ?T ?C ?S hi ?d ?u h0 ?vl ?lr ?r ?rl ?l ?_
    (case B => exact B2)
    (case X => exact X.keeps st2)
    (case T => exact T.keeps st2)
    (case C => exact C.keeps st2)
    (case S => exact S2)
    (case I => refine' Inner.mk ?a ?b; (case a => k_is); (case b => exact rfl))
    (case oc => assumption)
    (case cv => assumption)
    (case oi => assumption)
    (case od => assumption)
    (case on => assumption)
    (case d => show A.depth + 1 + ds.length < 900; (first | lia | omega))
    (case u => show A.units + 3 + 8 * ds.length < 9000; (first | lia | omega))
    (case vl => rw [Nat.sub_zero, part_all]; exact h1)
    (case lr => (first | lia | omega))
    (case r => exact Nat.le_refl _)
    (case rl => (first | lia | omega))
    (case l => (first | lia | omega))
    intro h3 t3 tk3 S3
    rw [Nat.sub_zero, part_all]
    obtain ⟨F3, N3⟩ := back _ _ S3
    replace N3 := N3 (pick N9 (fun n => n.drop 6)) (by
      dsimp only [pick, List.drop]
      intro p hp
      rw [List.mem_singleton] at hp
      subst hp
      refine ⟨by k_mem, ?_⟩
      simp only [List.map_cons, List.map_nil, List.mem_cons, List.not_mem_nil, or_false, not_or]
      refine ⟨?_, ?_, ?_, ?_, ?_, ?_⟩ <;> (refine neN ?_; (first | lia | omega)))
    dsimp only [pick, List.drop, List.cons_append, List.nil_append] at N3
    clear back S3 S2 B2 st2 F9 N9
    dsimp only
    repeat' (first | (k_unfold; (try dsimp only)) | ((fail_if_success with_reducible show wpAny _ _ (PySem.call (Value.ref _) _ _) _ _ _); first | walk1 | (dsimp only; walk1)))
    (try dsimp only)
    simp only [Array.empty_append] at N3
    refine' ret _ _ _ _ _ _ (.inr ⟨rfl, _, _, ?q1, ?q2⟩) ?z1 (St.of_fr F3 N3 (List.forall_mem_cons.mpr ⟨?m1, List.forall_mem_cons.mpr ⟨?m2, List.forall_mem_cons.mpr ⟨?m3, List.forall_mem_nil _⟩⟩⟩))
    (case q1 => assumption)
    (case q2 => assumption)
    (case m1 => k_mem)
    (case m2 => k_mem)
    (case m3 => k_mem)
    (case z1 => (first | lia | omega))
  · have hds : ds = [] := List.eq_nil_of_length_eq_zero (by (first | lia | omega))
    subst hds
    rename Fr _ _ _ _ => F9
    rename News _ _ _ _ => N9
    dsimp only
    simp only [Array.empty_append] at N9
    refine' ret _ _ _ _ _ _ (.inr ⟨rfl, _, _, ?q1, ?q2⟩) ?z1 (St.of_fr F9 N9 (List.forall_mem_cons.mpr ⟨?m1, List.forall_mem_cons.mpr ⟨?m2, List.forall_mem_cons.mpr ⟨?m3, List.forall_mem_nil _⟩⟩⟩))
    (case q1 => assumption)
    (case q2 => assumption)
    (case m1 => k_mem)
    (case m2 => k_mem)
    (case m3 => k_mem)
    (case z1 => (first | lia | omega))
theorem c108b {w : World} {A : Around} {s : Shared} {base g : Heap} {frs : List Env} {p : Program} {loose : List Str} {mean : ExcName → Option Value} {mg mb : Str → Option Value} {R : Result → Shared → Prop}
    (B : Below A base frs g) (X : (hd.heap_39 w.params).In g) (T : Top p loose mean mg mb g) (C : CodeHd g 107 103) {D : Addr} {vs : List Value} {e : Nat} {ds : List Int} (hne : ¬ @Eq Nat D 103) {c0 : Addr} {oc0 : Obj} {cvs : Array Value} {tq : Tok} (hoc : oc0.data = .fields cvs) (hcv : cvs[1]? = some (.str (Str.ofString "_digits2int.<locals>.inner") tq)) (hne2 : ¬ @Eq Nat c0 103) (S : St g [(D, listOf vs.toArray e), (103, tabObj #[rawInt (125 : Nat), rawInt (4 : Nat), .ref c0]), (c0, oc0)] s.heap) (hi : IntsAre vs ds) (hdp : A.depth + 100 < 900) (hun : A.units + 800 < 9000)
    {n : Nat} {tn : Tok} (h0 : ∀ d ∈ ds, 0 ≤ d) (h1 : val n ds < 2 ^ 60) (hn : 0 < n) (hn2 : n ≤ 60) (hlen : ds.length ≤ 60)
    (ret : ∀ h' t' tk',
      St g [(D, listOf vs.toArray e), (103, tabObj #[rawInt (125 : Nat), rawInt (4 : Nat), .ref c0]), (c0, oc0)] h' → R (.ok (.ret (.int (val n ds) t'))) { s with heap := h', toks := tk' }) :
    codeAny (model PySem.Challenge.rw_nb0217_01.row.prog w) A (.call (.ref 108) ⟨[.ref D, .int n tn], []⟩) R s := by
  revert X; k_fill; intro X
  refine' enterC S X T ?k6 ?k7 ?k8 ?k9 ?kB ?kD ?_ ?c2 ?c3 ?c4
  (case k6 => k_is)
  (case k7 => k_is)
  (case k8 => show _ < 1000; (try dsimp only); first | exact rm0 hdp | (first | lia | omega))
  (case k9 => exact BindsTo.of_eq rfl)
  (case kB => exact rfl)
  (case kD => decide +kernel)
  (case c2 => exact rfl)
  (case c3 => exact rfl)
  (case c4 => exact rfl)
  intro L' h' tk' cells' F' N' Y' l1 hLs
  (try k_lt l1)
  k_cells Y'
  (try simp only [List.cons_append, List.nil_append] at N')
  (try dsimp only)
  (try k_fold)
  clear S
  repeat' (first | (k_unfold; (try dsimp only)) | ((fail_if_success with_reducible show wpAny _ _ (PySem.call (Value.ref _) _ _) _ _ _); first | walk1 | (dsimp only; walk1)))
  · rename Fr _ _ _ _ => F9
    rename News _ _ _ _ => N9
    refine callG B F9 N9 rfl rfl (pick N9 (fun n => match n with | [a, b, c, d, e, _, h] => [a, h, e, b, d, c] | _ => [])) (by dsimp only [pick]; repeat (first | exact List.forall_mem_nil _ | refine List.forall_mem_cons.mpr ⟨by k_mem, ?_⟩)) ?_
    intro g2 B2 st2 S2 back
    dsimp only [pick] at S2 back
    show codeAny _ _ (Code.call _ ⟨[Value.int ((0 : Nat) : Int) _, _], []⟩) _ _
    refine' d2iInner ?I ?oc ?cv ?oi ?od ?on hn hn2 ds.length ?B ?X ?T ?C ?S hi ?d ?u h0 ?vl ?lr ?r ?rl ?l ?_
    (case B => exact B2)
    (case X => exact X.keeps st2)
    (case T => exact T.keeps st2)
    (case C => exact C.keeps st2)
    (case S => exact S2)
    (case I => refine' Inner.mk ?a ?b; (case a => k_is); (case b => exact rfl))
    (case oc => assumption)
    (case cv => assumption)
    (case oi => assumption)
    (case od => assumption)
    (case on => assumption)
    (case d => show A.depth + 1 + ds.length < 900; (first | lia | omega))
    (case u => show A.units + 3 + 8 * ds.length < 9000; (first | lia | omega))
    (case vl => rw [Nat.sub_zero, part_all]; exact h1)
    (case lr => (first | lia | omega))
    (case r => exact Nat.le_refl _)
    (case rl => (first | lia | omega))
    (case l => (first | lia | omega))
    intro h3 t3 tk3 S3
    rw [Nat.sub_zero, part_all]
    obtain ⟨F3, N3⟩ := back _ _ S3
    replace N3 := N3 (pick N9 (fun n => (n.drop 5).take 1)) (by
      dsimp only [pick, List.drop, List.take]
      intro p hp
      rw [List.mem_singleton] at hp
      subst hp
      refine ⟨by k_mem, ?_⟩
      simp only [List.map_cons, List.map_nil, List.mem_cons, List.not_mem_nil, or_false, not_or]
      refine ⟨?_, ?_, ?_, ?_, ?_, ?_⟩ <;> (refine neN ?_; (first | lia | omega)))
    dsimp only [pick, List.drop, List.take, List.cons_append, List.nil_append] at N3
    clear back S3 S2 B2 st2 F9 N9
    dsimp only
    repeat' (first | (k_unfold; (try dsimp only)) | ((fail_if_success with_reducible show wpAny _ _ (PySem.call (Value.ref _) _ _) _ _ _); first | walk1 | (dsimp only; walk1)))
    (try dsimp only)
    refine' ret _ _ _ (St.of_fr F3 N3 (List.forall_mem_cons.mpr ⟨?m1, List.forall_mem_cons.mpr ⟨?m2, List.forall_mem_cons.mpr ⟨?m3, List.forall_mem_nil _⟩⟩⟩))
    (case m1 => k_mem)
    (case m2 => k_mem)
    (case m3 => k_mem)
  · have hds : ds = [] := List.eq_nil_of_length_eq_zero (by (first | lia | omega))
    subst hds
    rename Fr _ _ _ _ => F9
    rename News _ _ _ _ => N9
    dsimp only
    refine' ret _ _ _ (St.of_fr F9 N9 (List.forall_mem_cons.mpr ⟨?m1, List.forall_mem_cons.mpr ⟨?m2, List.forall_mem_cons.mpr ⟨?m3, List.forall_mem_nil _⟩⟩⟩))
    (case m1 => k_mem)
    (case m2 => k_mem)
    (case m3 => k_mem)
theorem c108 {w : World} {A : Around} {s : Shared} {base g : Heap} {frs : List Env} {p : Program} {loose : List Str} {mean : ExcName → Option Value} {mg mb : Str → Option Value} {R : Result → Shared → Prop}
    (B : Below A base frs g) (X : (hd.heap_39 w.params).In g) (T : Top p loose mean mg mb g) (C : CodeHd g 107 103) {D : Addr} {vs : List Value} {e : Nat} {ds : List Int} (hne : ¬ @Eq Nat D 103) {t0 : Obj} {c0 : Addr} {oc0 : Obj} (hq : Tq 103 125 4 (Str.ofString "_digits2int.<locals>.inner") t0 c0 oc0)
    (S : St g [(D, listOf vs.toArray e), (103, t0), (c0, oc0)] s.heap) (hi : IntsAre vs ds) (hdp : A.depth + 100 < 900) (hun : A.units + 800 < 9000)
    {n : Nat} {tn : Tok} (h0 : ∀ d ∈ ds, 0 ≤ d) (h1 : val n ds < 2 ^ 60) (hn : 0 < n) (hn2 : n ≤ 60) (hlen : ds.length ≤ 60)
    (ret : ∀ c1 t1 oc1 h' t' tk', Tq 103 125 4 (Str.ofString "_digits2int.<locals>.inner") t1 c1 oc1 → (@Eq Nat c1 c0 ∨ @LE.le Nat _ s.heap.objs.size c1) →
      St g [(D, listOf vs.toArray e), (103, t1), (c1, oc1)] h' → R (.ok (.ret (.int (val n ds) t'))) { s with heap := h', toks := tk' }) :
    codeAny (model PySem.Challenge.rw_nb0217_01.row.prog w) A (.call (.ref 108) ⟨[.ref D, .int n tn], []⟩) R s := by
  rcases hq with ⟨rfl, rfl, rfl⟩ | ⟨rfl, cvs, tq, hoc, hcv⟩
  · exact c108a B X T C hne (S.sub (List.forall_mem_cons.mpr ⟨.head _, List.forall_mem_cons.mpr ⟨.tail _ (.head _), List.forall_mem_nil _⟩⟩)) hi hdp hun h0 h1 hn hn2 hlen (fun c1 t1 oc1 h' t' tk' q z1 => ret c1 t1 oc1 h' t' tk' q (.inr z1))
  · exact c108b B X T C hne hoc hcv (Tq.apart (S.sub (fun p hp => List.mem_cons_of_mem _ hp)) hoc hcv) S hi hdp hun h0 h1 hn hn2 hlen (fun h' t' tk' => ret c0 _ oc0 h' t' tk' (.inr ⟨rfl, cvs, tq, hoc, hcv⟩) (.inl rfl))
end Mine

end TxtC4
section TxtC5
theorem Mine.Off.offC5 : True := by
  w_top off
  trivial
open PySem PySem.W PySem.Spec PySem.Calls PyProof.Rows
set_option Elab.async false
set_option maxRecDepth 100000
set_option maxHeartbeats 2000000
namespace Mine

local macro_rules | `(tactic| walk_at "callWith ref") => `(tactic| (k_here; k_dflt (refine' callWith_K ?k1 ?k2 ?_; (case k1 => k_asm); (case k2 => k_is); k_whole)))
structure DivS where
  vq : List Value
  qs : List Int
  e : Nat
  r : Int
  tr : Tok
theorem c115 {w : World} {A : Around} {s : Shared} {base g : Heap} {frs : List Env} {p : Program} {loose : List Str} {mean : ExcName → Option Value} {mg mb : Str → Option Value} {R : Result → Shared → Prop}
    (B : Below A base frs g) (X : (hd.heap_39 w.params).In g) (T : Top p loose mean mg mb g) (C : CodeHd g 100 96) (C2 : CodeHd g 107 103) {t0 : Obj} {c0 : Addr} {oc0 : Obj} (hq : Tq 96 110 4 (Str.ofString "_int2digits.<locals>.inner") t0 c0 oc0)
    {t1 : Obj} {c1 : Addr} {oc1 : Obj} (hq1 : Tq 103 125 4 (Str.ofString "_digits2int.<locals>.inner") t1 c1 oc1)
    (S : St g [(96, t0), (c0, oc0), (103, t1), (c1, oc1)] s.heap) (hh : A.handled = none) (hdp : A.depth + 110 < 900) (hun : A.units + 900 < 9000)
    {a b : Int} {ta tb : Tok} (h0 : 0 ≤ a) (h1 : a < 2 ^ 60) (hb : 0 < b) (hb1 : b < 2 ^ 60)
    (ret : ∀ t2 c2 oc2 t3 c3 oc3 x h' u1 u2 tk', Tq 96 110 4 (Str.ofString "_int2digits.<locals>.inner") t2 c2 oc2 → Tq 103 125 4 (Str.ofString "_digits2int.<locals>.inner") t3 c3 oc3 → (@Eq Nat c2 c0 ∨ @LE.le Nat _ s.heap.objs.size c2) → (@Eq Nat c3 c1 ∨ @LE.le Nat _ s.heap.objs.size c3) →
      @LE.le Nat _ s.heap.objs.size x → @LT.lt Nat _ c2 x → @LT.lt Nat _ c3 x → St g [(x, { cls := .type "tuple", data := .seq #[.int (a / b) u1, .int (a % b) u2] }), (96, t2), (c2, oc2), (103, t3), (c3, oc3)] h' → R (.ok (.ret (.ref x))) { s with heap := h', toks := tk' }) :
    codeAny (model PySem.Challenge.rw_nb0217_01.row.prog w) A (.call (.ref 115) ⟨[.int a ta, .int b tb], []⟩) R s := by
  obtain ⟨ahd, dp, afr, agd, aun⟩ := A
  obtain rfl : ahd = none := hh
  dsimp only at hdp hun
  obtain ⟨n, hn⟩ : ∃ n : Nat, n = Builtin.Int.intBits b := ⟨_, rfl⟩
  have hn0 : 0 < n := by rw [hn]; exact bits_pos (by (first | lia | omega))
  have hn60 : n ≤ 60 := by rw [hn]; exact bits_le (by (first | lia | omega)) hb1
  obtain ⟨ap1, ap2, ap3⟩ := Tq.apart2 hq hq1 (by decide) (by decide) S
  revert X; k_fill; intro X
  refine' enterG S X T ?k6 ?k7 ?k8 ?k9 ?kB ?_ ?c2 ?c3 ?c4 ?c5
  (case k6 => k_is)
  (case k7 => k_is)
  (case k8 => show _ < 1000; (try dsimp only); first | exact rm0 hdp | (first | lia | omega))
  (case k9 => exact BindsTo.of_eq rfl)
  (case c5 => decide)
  (case kB => exact locs rfl)
  (case c2 => exact rfl)
  (case c3 => exact rfl)
  (case c4 => exact rfl)
  intro L' h' F' N' l1 hLs
  (try k_lt l1)
  (try dsimp only)
  (try k_fold)
  clear S
  repeat' (first | (k_unfold; (try dsimp only)) | ((fail_if_success with_reducible show wpAny _ _ (PySem.call (Value.ref _) _ _) _ _ _); first | walk1 | (dsimp only; walk1)))
  rename Fr _ _ _ _ => F9
  rename News _ _ _ _ => N9
  simp only [← hn] at F9
  have hL9 : @LT.lt Nat _ L' _ := F9.ns.lt
  have l9 := ltSize N9
  k_lt l9
  refine callG B F9 N9 rfl rfl (pick N9 (fun n => n.take 2)) (fun p hp => List.mem_of_mem_take hp) ?_
  intro g2 B2 st2 S2 back
  dsimp only [pick, List.take] at S2 back
  rw [← hn]
  refine' c101 ?B ?X ?T ?C hq ?S ?d ?u h0 h1 hn0 hn60 ?_
  (case B => exact B2)
  (case X => exact X.keeps st2)
  (case T => exact T.keeps st2)
  (case C => exact C.keeps st2)
  (case S => exact S2)
  (case d => show dp + 1 + 100 < 900; first | exact rm1 hdp (by decide) | (first | lia | omega))
  (case u => show aun + 3 + 800 < 9000; first | exact rm3 hun (by decide) | (first | lia | omega))
  intro c2 t2 oc2 D vs ds h3 tk3 hq2 hc2 hD hDc hi hval hds hlen S3
  dsimp only at hc2 hD
  obtain ⟨F3, N3⟩ := back _ _ S3
  replace N3 := N3 (pick N9 (fun n => n.drop 2)) (by
    dsimp only [pick, List.drop]
    refine List.forall_mem_cons.mpr ⟨⟨by k_mem, ?_⟩, List.forall_mem_cons.mpr ⟨⟨by k_mem, ?_⟩, List.forall_mem_nil _⟩⟩
    all_goals (simp only [List.map_cons, List.map_nil, List.mem_cons, List.not_mem_nil, or_false, not_or]; refine ⟨?_, ?_⟩ <;> (refine neN ?_; (first | lia | omega))))
  dsimp only [pick, List.drop, List.cons_append, List.nil_append] at N3
  clear back S3 S2 B2 st2 F9 N9
  dsimp only
  repeat' (first | (k_unfold; (try dsimp only)) | ((fail_if_success with_reducible show wpAny _ _ (PySem.call (Value.ref _) _ _) _ _ _); (fail_if_success with_reducible show wpAny _ _ (pyIter _) _ _ _); first | walk1 | (dsimp only; walk1)))
  rename_i Qa h1q lq h2 I h4 F4 N4 lI
  have hIm := (N4 _ (List.Mem.head _))
  have hDm := (N4 _ (List.Mem.tail _ (List.Mem.tail _ (List.Mem.head _))))

  refine' kst_rev (σ := DivS) (I := I) (D := D) (vs := vs) (ds := ds) (fun c => [(Qa, listOf c.vq.toArray c.e), (96, t2), (c2, oc2), (103, t1), (c1, oc1)]) (fun c => [(Str.ofString "r", .int c.r c.tr)]) (fun c => IntsAre c.vq c.qs)
    [Str.ofString "q_digit"] (fun pre c => (c.qs, c.r) = dloop n b pre) ⟨[], [], 0, 0, _⟩ rfl ?it ?isl ?In ?DI ?IL ?DL hi F4 ?N ?off .nil ?k0 rfl ?turn ?done
  (case it => exact ⟨_, hIm.1, rfl, rfl⟩)
  (case isl => exact ⟨_, hDm.1, rfl, _, rfl⟩)
  (case In => exact hIm.2.2)
  (case DI => refine neN ?_; (first | lia | omega))
  (case IL => exact hIm.2.1)
  (case DL => exact hDm.2.1)
  (case N => exact fun p hp => N4 p (by
    simp only [List.mem_cons, List.not_mem_nil, or_false] at hp
    rcases hp with rfl | rfl | rfl | rfl | rfl <;> k_mem))
  (case off =>
    refine List.forall_mem_cons.mpr ⟨?_, List.forall_mem_cons.mpr ⟨?_, List.forall_mem_cons.mpr ⟨?_, List.forall_mem_cons.mpr ⟨?_, List.forall_mem_cons.mpr ⟨?_, List.forall_mem_nil _⟩⟩⟩⟩⟩
    all_goals (refine ⟨?_, ?_⟩ <;> (refine neN ?_; dsimp only; (first | lia | omega))))
  (case k0 => kst_all)
  (case turn =>
    intro c pre post d t u h5 tk5 own e5 hoff5 hf5 hP5 F5 N5
    clear N4 F4
    obtain ⟨vq, qs, e, r, tr⟩ := c
    dsimp only at F5 N5 hf5 hP5
    dsimp only [List.map] at hoff5
    repeat' (first | (k_unfold; (try dsimp only)) | ((fail_if_success with_reducible show wpAny _ _ (PySem.call (Value.ref _) _ _) _ _ _); (fail_if_success with_reducible show wpAny _ _ (binaryOp Operator.LShift _ _) _ _ _); first | walk1 | (dsimp only; walk1)))
    have hr5 : 0 ≤ r ∧ r < b := by
      have := dloop_rest' (n := n) hb pre
      rw [← hP5] at this
      exact this
    have hd5 : 0 ≤ d ∧ d ≤ a := hds d (by rw [← List.mem_reverse, e5]; exact List.mem_append_right _ (.head _))
    have hbd := dstep_bound (n := n) hr5.1 hr5.2 hb1 hn60 hd5.1 hd5.2 h1
    dsimp only
    refine lshift_to (v := r * 2 ^ n) (by (first | lia | omega)) (by (first | lia | omega)) (by (first | lia | omega)) (by rw [Int.toNat_natCast]) ?_
    repeat' (first | (k_unfold; (try dsimp only)) | ((fail_if_success with_reducible show wpAny _ _ (PySem.call (Value.ref _) _ _) _ _ _); (fail_if_success with_reducible show wpAny _ _ (binaryOp Operator.LShift _ _) _ _ _); first | walk1 | (dsimp only; walk1)))
    refine callG B F5 N5 rfl rfl [] (fun _ h => nomatch h) ?_
    intro g2 B2 st2 S2 back
    refine' c87 ?B ?X ?T ?S ?d hbd.1 hb ?bit (noPy hb hb1) ?_
    (case B => exact B2)
    (case X => exact X.keeps st2)
    (case T => exact T.keeps st2)
    (case S => exact S2)
    (case d => show dp + 1 + 8 < 900; first | exact rm1 hdp (by decide) | (first | lia | omega))
    (case bit => have := bits_le hbd.1 hbd.2; (first | lia | omega))
    intro x6 h6 t6 t7 tk6 hx6 S6
    rw [Int.fdiv_eq_ediv_of_nonneg _ (Int.le_of_lt hb), Int.fmod_eq_emod_of_nonneg _ (Int.le_of_lt hb)] at S6
    obtain ⟨F6, N6⟩ := back _ _ S6
    replace N6 := N6 _ (fun p hp => ⟨hp, fun h => nomatch h⟩)
    have l6 : @LT.lt Nat _ Qa h5.objs.size := ltSize N5 _ (List.Mem.head _)
    simp only [List.cons_append, List.nil_append] at N6
    clear back S6 S2 B2 st2 F5 N5
    dsimp only at hx6
    have hq6 : qs.length = pre.length := by
      have := congrArg (fun x => x.1.length) hP5
      rw [dloop_length] at this
      exact this
    have hpl : pre.length ≤ 60 := by
      have := congrArg List.length e5
      rw [List.length_reverse, List.length_append] at this
      (first | lia | omega)
    have hv6 : vq.length ≤ 60 := by rw [hf5.length]; (first | lia | omega)
    dsimp only
    repeat' (first | (k_unfold; (try dsimp only)) | ((fail_if_success with_reducible show wpAny _ _ (PySem.call (Value.ref _) _ _) _ _ _); (fail_if_success with_reducible show wpAny _ _ (binaryOp Operator.LShift _ _) _ _ _); (fail_if_success with_reducible show wpAny _ _ (PySem.call (Value.builtin "list.append") _ _) _ _ _); first | walk1 | (dsimp only; walk1)))
    rename Fr _ _ _ _ => F7
    rename News _ _ _ _ => N7
    refine' append_K F7 N7 ?U ?_ ?z
    (case U => k_upd)
    (case z => simp only [List.size_toArray]; rw [sizeLine_eq]; (first | lia | omega))
    intro h8 F8 N8
    repeat' (first | (k_unfold; (try dsimp only)) | ((fail_if_success with_reducible show wpAny _ _ (PySem.call (Value.ref _) _ _) _ _ _); (fail_if_success with_reducible show wpAny _ _ (binaryOp Operator.LShift _ _) _ _ _); (fail_if_success with_reducible show wpAny _ _ (PySem.call (Value.builtin "list.append") _ _) _ _ _); (fail_if_success with_reducible show InvEndN _ _ _ _ _ _ _); first | walk1 | (dsimp only; walk1)))
    refine' kst_end (⟨vq ++ [Value.int ((r * 2 ^ n + d) / b) t6], qs ++ [(r * 2 ^ n + d) / b], e + 1, (r * 2 ^ n + d) % b, t7⟩ : DivS) F8 N8 ?hn ?ho ?ha ?hf ?hk ?hr ?hp
    (case hn => exact List.forall_mem_cons.mpr ⟨by simp only [List.push_toArray] at *; k_mem, List.forall_mem_cons.mpr ⟨by k_mem, List.forall_mem_cons.mpr ⟨by k_mem, List.forall_mem_cons.mpr ⟨by k_mem, List.forall_mem_cons.mpr ⟨by k_mem, List.forall_mem_nil _⟩⟩⟩⟩⟩)
    (case ho => exact fun p hp => .tail _ (.tail _ (.tail _ (.tail _ (.tail _ (.tail _ hp))))))
    (case ha => exact rfl)
    (case hf => exact IntsAre.append hf5 (.cons _ _ .nil))
    (case hk => kst_all)
    (case hr =>
      intro z z1 z2 z3
      have z4 := z2 _ (List.Mem.head _)
      dsimp only at z4
      have z5 : z ≠ Str.ofString "q_digit" := by
        intro e; subst e; simp at z3
      rw [if_neg z4, if_neg z5, if_neg z1]
      simp only [kstB, if_neg z4, z3, Bool.false_eq_true, if_false])
    (case hp =>
      rw [dloop_append, ← hP5]; rfl)
    )
  (case done =>
    intro c u h5 tk5 hf5 hP5 F5 N5
    clear N4 F4
    obtain ⟨vq, qs, e, r, tr⟩ := c
    dsimp only at F5 N5 hf5 hP5
    dsimp only
    repeat' (first | (k_unfold; (try dsimp only)) | ((fail_if_success with_reducible show wpAny _ _ (PySem.call (Value.ref _) _ _) _ _ _); (fail_if_success with_reducible show wpAny _ _ (binaryOp Operator.LShift _ _) _ _ _); (fail_if_success with_reducible show wpAny _ _ (PySem.call (Value.builtin "list.reverse") _ _) _ _ _); first | walk1 | (dsimp only; walk1)))
    have hq5 : qs.length = ds.length := by
      have := congrArg (fun x => x.1.length) hP5
      rw [dloop_length, List.length_reverse] at this
      exact this
    have hr5 : r = a % b := by
      have := congrArg (fun x => x.2) hP5
      rw [(dloop_div (n := n) hb ds).2, hval] at this
      exact this
    have hqv : val n qs.reverse = a / b := by
      have := congrArg (fun x => val n x.1.reverse) hP5
      rw [(dloop_div (n := n) hb ds).1, hval] at this
      exact this
    have hqn : ∀ q ∈ qs.reverse, 0 ≤ q := by
      intro q hq
      have := congrArg (fun x => x.1) hP5
      dsimp only at this
      rw [List.mem_reverse, this] at hq
      exact dloop_nonneg hb _ (fun d hd => (hds d (List.mem_reverse.mp hd)).1) q hq
    dsimp only
    refine reverse_head_ints F5 N5 ?ap hf5 ?_ ?sz
    (case ap =>
      refine List.forall_mem_cons.mpr ⟨?_, List.forall_mem_cons.mpr ⟨?_, List.forall_mem_cons.mpr ⟨?_, List.forall_mem_cons.mpr ⟨?_, List.forall_mem_nil _⟩⟩⟩⟩
      all_goals (refine neN ?_; dsimp only; (first | lia | omega)))
    (case sz => rw [sizeLine_eq]; (first | lia | omega))
    intro h6 F6 N6 hi6
    change News _ _ _ ((Qa, listOf vq.reverse.toArray e) :: _) at N6
    change IntsAre vq.reverse qs.reverse at hi6
    repeat' (first | (k_unfold; (try dsimp only)) | ((fail_if_success with_reducible show wpAny _ _ (PySem.call (Value.ref _) _ _) _ _ _); (fail_if_success with_reducible show wpAny _ _ (binaryOp Operator.LShift _ _) _ _ _); first | walk1 | (dsimp only; walk1)))
    have l6 := ltSize N6
    k_lt l6
    refine callG B F6 N6 rfl rfl (pick N6 (fun n => match n with | [a, _, _, d, e] => [a, d, e] | _ => [])) (by dsimp only [pick]; repeat (first | exact List.forall_mem_nil _ | refine List.forall_mem_cons.mpr ⟨by k_mem, ?_⟩)) ?_
    intro g2 B2 st2 S2 back
    dsimp only [pick] at S2 back
    refine' c108 ?B8 ?X8 ?T8 ?C8 ?ne8 hq1 ?S8 hi6 ?d8 ?u8 hqn ?v8 hn0 hn60 ?l8 ?_
    (case B8 => exact B2)
    (case X8 => exact X.keeps st2)
    (case T8 => exact T.keeps st2)
    (case C8 => exact C2.keeps st2)
    (case S8 => exact S2)
    (case ne8 => (first | lia | omega))
    (case d8 => show dp + 1 + 100 < 900; first | exact rm1 hdp (by decide) | (first | lia | omega))
    (case u8 => show aun + 3 + 800 < 9000; first | exact rm3 hun (by decide) | (first | lia | omega))
    (case v8 => rw [hqv]; have := Int.ediv_le_self b h0; (first | lia | omega))
    (case l8 => rw [List.length_reverse]; (first | lia | omega))
    intro c3 t3 oc3 h7 t7 tk7 hq3 hc3 S7
    rw [hqv]
    dsimp only at hc3
    obtain ⟨F7, N7⟩ := back _ _ S7
    replace N7 := N7 (pick N6 (fun n => (n.drop 1).take 2)) (by
      dsimp only [pick, List.drop, List.take]
      refine List.forall_mem_cons.mpr ⟨⟨by k_mem, ?_⟩, List.forall_mem_cons.mpr ⟨⟨by k_mem, ?_⟩, List.forall_mem_nil _⟩⟩
      all_goals (simp only [List.map_cons, List.map_nil, List.mem_cons, List.not_mem_nil, or_false, not_or]; refine ⟨?_, ?_, ?_⟩ <;> (refine neN ?_; (first | lia | omega))))
    dsimp only [pick, List.drop, List.take, List.cons_append, List.nil_append] at N7
    have hLh : @LT.lt Nat _ L' h6.objs.size := F6.ns.lt
    clear back S7 S2 B2 st2 F6 N6 F5 N5
    dsimp only
    repeat' (first | (k_unfold; (try dsimp only)) | ((fail_if_success with_reducible show wpAny _ _ (PySem.call (Value.ref _) _ _) _ _ _); (fail_if_success with_reducible show wpAny _ _ (binaryOp Operator.LShift _ _) _ _ _); first | walk1 | (dsimp only; walk1)))
    rename Fr _ _ _ _ => F8
    rename News _ _ _ _ => N8
    subst hr5
    refine' ret _ _ _ _ _ _ _ _ _ _ _ hq2 hq3 ?y1 ?y2 ?y3 ?y4 ?y5 (St.of_fr F8 N8 (List.forall_mem_cons.mpr ⟨?m1, List.forall_mem_cons.mpr ⟨?m2, List.forall_mem_cons.mpr ⟨?m3, List.forall_mem_cons.mpr ⟨?m4, List.forall_mem_cons.mpr ⟨?m5, List.forall_mem_nil _⟩⟩⟩⟩⟩))
    (case m1 => k_mem)
    (case m2 => k_mem)
    (case m3 => k_mem)
    (case m4 => k_mem)
    (case m5 => k_mem)
    (case y1 => (first | lia | omega))
    (case y2 => (first | lia | omega))
    (case y3 => (first | lia | omega))
    (case y4 => (first | lia | omega))
    (case y5 => (first | lia | omega)))
end Mine

end TxtC5
section TxtC6
theorem Mine.Off.offC6 : True := by
  w_top off
  trivial
open PySem PySem.W PySem.Spec PySem.Calls PyProof.Rows
set_option Elab.async false
set_option maxRecDepth 100000
set_option maxHeartbeats 2000000
namespace Mine

theorem pow10_lt {k : Nat} (h : k ≤ 16) : (0 : Int) < 10 ^ k ∧ (10 : Int) ^ k < 2 ^ 60 := by
  refine ⟨Int.pow_pos (by decide), ?_⟩
  have := Nat.pow_le_pow_right (n := 10) (by decide) h
  have e : ((10 ^ k : Nat) : Int) = 10 ^ k := by rw [Int.natCast_pow]; rfl
  have e2 : (10 : Nat) ^ 16 < 2 ^ 60 := by decide
  (first | lia | omega)
theorem c136 {w : World} {A : Around} {s : Shared} {base g : Heap} {frs : List Env} {p : Program} {loose : List Str} {mean : ExcName → Option Value} {mg mb : Str → Option Value} {R : Result → Shared → Prop}
    (B : Below A base frs g) (X : (hd.heap_39 w.params).In g) (T : Top p loose mean mg mb g) (C : CodeHd g 100 96) (C2 : CodeHd g 107 103) {t0 : Obj} {c0 : Addr} {oc0 : Obj} (hq : Tq 96 110 4 (Str.ofString "_int2digits.<locals>.inner") t0 c0 oc0)
    {t1 : Obj} {c1 : Addr} {oc1 : Obj} (hq1 : Tq 103 125 4 (Str.ofString "_digits2int.<locals>.inner") t1 c1 oc1)
    (S : St g [(96, t0), (c0, oc0), (103, t1), (c1, oc1)] s.heap) (hh : A.handled = none) (hdp : A.depth + 120 < 900) (hun : A.units + 1000 < 9000)
    {a : Int} {k j : Nat} {ta tb tc : Tok} (h0 : 0 ≤ a) (h1 : a < 2 ^ 60) (hk : k ≤ 16) (hj : j ≤ 16)
    (ret : ∀ t2 c2 oc2 t3 c3 oc3 h' u1 tk', Tq 96 110 4 (Str.ofString "_int2digits.<locals>.inner") t2 c2 oc2 → Tq 103 125 4 (Str.ofString "_digits2int.<locals>.inner") t3 c3 oc3 → (@Eq Nat c2 c0 ∨ @LE.le Nat _ s.heap.objs.size c2) → (@Eq Nat c3 c1 ∨ @LE.le Nat _ s.heap.objs.size c3) →
      St g [(96, t2), (c2, oc2), (103, t3), (c3, oc3)] h' → R (.ok (.ret (.int (a / 10 ^ k % 10 ^ j) u1))) { s with heap := h', toks := tk' }) :
    codeAny (model PySem.Challenge.rw_nb0217_01.row.prog w) A (.call (.ref 136) ⟨[.int a ta, .int k tb, .int j tc], []⟩) R s := by
  obtain ⟨ahd, dp, afr, agd, aun⟩ := A
  obtain rfl : ahd = none := hh
  dsimp only at hdp hun
  have hp1 := pow10_lt hk
  have hp2 := pow10_lt hj
  revert X; k_fill; intro X
  refine' enterG S X T ?k6 ?k7 ?k8 ?k9 ?kB ?_ ?c2 ?c3 ?c4 ?c5
  (case k6 => k_is)
  (case k7 => k_is)
  (case k8 => show _ < 1000; (try dsimp only); first | exact rm0 hdp | (first | lia | omega))
  (case k9 => exact BindsTo.of_eq rfl)
  (case c5 => decide)
  (case kB => exact locs rfl)
  (case c2 => exact rfl)
  (case c3 => exact rfl)
  (case c4 => exact rfl)
  intro L' h' F' N' l1 hLs
  (try k_lt l1)
  (try dsimp only)
  (try k_fold)
  clear S
  repeat' (first | (k_unfold; (try dsimp only)) | ((fail_if_success with_reducible show wpAny _ _ (PySem.call (Value.ref _) _ _) _ _ _); (fail_if_success with_reducible show wpAny _ _ (binaryOp Operator.Pow _ _) _ _ _); first | walk1 | (dsimp only; walk1)))
  refine pow_int_small (by (first | lia | omega)) (by (first | lia | omega)) (by decide) ?_
  rw [Int.toNat_natCast]
  repeat' (first | (k_unfold; (try dsimp only)) | ((fail_if_success with_reducible show wpAny _ _ (PySem.call (Value.ref _) _ _) _ _ _); (fail_if_success with_reducible show wpAny _ _ (binaryOp Operator.Pow _ _) _ _ _); first | walk1 | (dsimp only; walk1)))
  rename Fr _ _ _ _ => F9
  rename News _ _ _ _ => N9
  have hL1 : @LT.lt Nat _ L' _ := F9.ns.lt
  have l19 := ltSize N9
  k_lt l19
  refine callG B F9 N9 rfl rfl (pick N9 (fun n => n)) (fun p hp => hp) ?_
  intro g2 B2 st2 S2 back
  dsimp only [pick, List.drop] at S2 back
  refine' c115 ?B1 ?X1 ?T1 ?C1 ?D1 hq hq1 ?S1 rfl ?d1 ?u1 h0 h1 hp1.1 hp1.2 ?_
  (case B1 => exact B2)
  (case X1 => exact X.keeps st2)
  (case T1 => exact T.keeps st2)
  (case C1 => exact C.keeps st2)
  (case D1 => exact C2.keeps st2)
  (case S1 => exact S2)
  (case d1 => show dp + 1 + 110 < 900; first | exact rm1 hdp (by decide) | (first | lia | omega))
  (case u1 => show aun + 3 + 900 < 9000; first | exact rm3 hun (by decide) | (first | lia | omega))
  intro t2 c2 oc2 t3 c3 oc3 x h3 u1 u2 tk3 hq2 hq3 hc2 hc3 hx hx2 hx3 S3
  dsimp only at hc2 hc3 hx
  obtain ⟨F3, N3⟩ := back _ _ S3
  replace N3 := N3 [] (fun _ h => nomatch h)
  simp only [List.append_nil] at N3
  clear back S3 S2 B2 st2 F9 N9
  dsimp only
  repeat' (first | (k_unfold; (try dsimp only)) | ((fail_if_success with_reducible show wpAny _ _ (PySem.call (Value.ref _) _ _) _ _ _); (fail_if_success with_reducible show wpAny _ _ (binaryOp Operator.Pow _ _) _ _ _); first | walk1 | (dsimp only; walk1)))
  have hd0 : 0 ≤ a / 10 ^ k := Int.ediv_nonneg h0 (Int.le_of_lt hp1.1)
  have hd1 : a / 10 ^ k < 2 ^ 60 := by have := Int.ediv_le_self (10 ^ k) h0; (first | lia | omega)
  refine pow_int_small (by (first | lia | omega)) (by (first | lia | omega)) (by decide) ?_
  rw [Int.toNat_natCast]
  repeat' (first | (k_unfold; (try dsimp only)) | ((fail_if_success with_reducible show wpAny _ _ (PySem.call (Value.ref _) _ _) _ _ _); (fail_if_success with_reducible show wpAny _ _ (binaryOp Operator.Pow _ _) _ _ _); first | walk1 | (dsimp only; walk1)))
  rename Fr _ _ _ _ => F9
  rename News _ _ _ _ => N9
  have hL2 : @LT.lt Nat _ L' _ := F9.ns.lt
  have l29 := ltSize N9
  k_lt l29
  refine callG B F9 N9 rfl rfl (pick N9 (fun n => n.drop 1)) (fun p hp => List.mem_of_mem_drop hp) ?_
  intro g2 B2 st2 S2 back
  dsimp only [pick, List.drop] at S2 back
  refine' c115 ?B2 ?X2 ?T2 ?C2 ?D2 hq2 hq3 ?S2 rfl ?d2 ?u2 hd0 hd1 hp2.1 hp2.2 ?_
  (case B2 => exact B2)
  (case X2 => exact X.keeps st2)
  (case T2 => exact T.keeps st2)
  (case C2 => exact C.keeps st2)
  (case D2 => exact C2.keeps st2)
  (case S2 => exact S2)
  (case d2 => show dp + 1 + 110 < 900; first | exact rm1 hdp (by decide) | (first | lia | omega))
  (case u2 => show aun + 3 + 900 < 9000; first | exact rm3 hun (by decide) | (first | lia | omega))
  intro t4 c4 oc4 t5 c5 oc5 y h5 u3 u4 tk5 hq4 hq5 hc4 hc5 hy hy2 hy3 S5
  dsimp only at hc4 hc5 hy
  obtain ⟨F5, N5⟩ := back _ _ S5
  replace N5 := N5 [] (fun _ h => nomatch h)
  simp only [List.append_nil] at N5
  clear back S5 S2 B2 st2 F9 N9
  dsimp only
  repeat' (first | (k_unfold; (try dsimp only)) | ((fail_if_success with_reducible show wpAny _ _ (PySem.call (Value.ref _) _ _) _ _ _); (fail_if_success with_reducible show wpAny _ _ (binaryOp Operator.Pow _ _) _ _ _); first | walk1 | (dsimp only; walk1)))
  rename Fr _ _ _ _ => F8
  rename News _ _ _ _ => N8
  refine' ret _ _ _ _ _ _ _ _ _ hq4 hq5 ?y1 ?y2 (St.of_fr F8 N8 (List.forall_mem_cons.mpr ⟨?m1, List.forall_mem_cons.mpr ⟨?m2, List.forall_mem_cons.mpr ⟨?m3, List.forall_mem_cons.mpr ⟨?m4, List.forall_mem_nil _⟩⟩⟩⟩))
  (case m1 => k_mem)
  (case m2 => k_mem)
  (case m3 => k_mem)
  (case m4 => k_mem)
  (case y1 => (first | lia | omega))
  (case y2 => (first | lia | omega))
end Mine

end TxtC6
section TxtC7
theorem Mine.Off.offC7 : True := by
  w_top off
  trivial
open PySem PySem.W PySem.Spec PySem.Calls PyProof.Rows
set_option Elab.async false
set_option maxRecDepth 100000
set_option maxHeartbeats 2000000
namespace Mine

theorem c122 {w : World} {A : Around} {s : Shared} {base g : Heap} {frs : List Env} {p : Program} {loose : List Str} {mean : ExcName → Option Value} {mg mb : Str → Option Value} {R : Result → Shared → Prop}
    (B : Below A base frs g) (X : (hd.heap_39 w.params).In g) (T : Top p loose mean mg mb g) (S : St g [] s.heap) (hh : A.handled = none) (hdp : A.depth + 120 < 900) (hun : A.units + 1000 < 9000)
    {l : Addr} {vs : List Value} {ns : List Int} (hl : g.IsList l vs.toArray) (hi : IntsAre vs ns) (hlen : ns.length ≤ 63)
    (ret : ∀ h' t' tk', St g [] h' → R (.ok (.ret (.str (sOf (rowOf ns)) t'))) { s with heap := h', toks := tk' }) :
    codeAny (model PySem.Challenge.rw_nb0217_01.row.prog w) A (.call (.ref 122) ⟨[.ref l], []⟩) R s := by
  obtain ⟨ahd, dp, afr, agd, aun⟩ := A
  obtain rfl : ahd = none := hh
  dsimp only at hdp hun
  revert X; k_fill; intro X
  refine' enterG S X T ?k6 ?k7 ?k8 ?k9 ?kB ?_ ?c2 ?c3 ?c4 ?c5
  (case k6 => k_is)
  (case k7 => k_is)
  (case k8 => show _ < 1000; (try dsimp only); first | exact rm0 hdp | (first | lia | omega))
  (case k9 => exact BindsTo.of_eq rfl)
  (case c5 => decide)
  (case kB => exact locs rfl)
  (case c2 => exact rfl)
  (case c3 => exact rfl)
  (case c4 => exact rfl)
  intro L' h' F' N' l1 hLs
  (try k_lt l1)
  (try dsimp only)
  (try k_fold)
  clear S
  repeat' (first | (k_unfold; (try dsimp only)) | ((fail_if_success with_reducible show wpAny _ _ (PySem.call (Value.ref _) _ _) _ _ _); (fail_if_success with_reducible show wpAny _ _ (pyIter _) _ _ _); (fail_if_success with_reducible show wpAny _ _ (binaryOp Operator.Mod _ _) _ _ _); (fail_if_success with_reducible show wpAny _ _ (binaryOp Operator.Add (Value.str _ _) (Value.str _ _)) _ _ _); first | walk1 | (dsimp only; walk1)))
  refine mod_to (v := ((firstOf ns : Nat) : Int)) (by decide) (abs_mod _ 10 (by decide)) ?_
  have hf10 := firstOf_lt ns
  repeat' (first | (k_unfold; (try dsimp only)) | ((fail_if_success with_reducible show wpAny _ _ (PySem.call (Value.ref _) _ _) _ _ _); (fail_if_success with_reducible show wpAny _ _ (pyIter _) _ _ _); (fail_if_success with_reducible show wpAny _ _ (binaryOp Operator.Mod _ _) _ _ _); (fail_if_success with_reducible show wpAny _ _ (binaryOp Operator.Add (Value.str _ _) (Value.str _ _)) _ _ _); (fail_if_success with_reducible show wpAny _ _ (exec (Stmt.For _ _ _ _ _) _) _ _ _); first | walk1 | (dsimp only; walk1)))
  ((rename Fr _ _ _ _ => lF'); (with_unfolding_all refine' For_invVF lF' ?kf1 ?kf2 ?_; (case kf1 => exact rfl); (case kf2 => exact rfl)))
  repeat' (first | (k_unfold; (try dsimp only)) | ((fail_if_success with_reducible show wpAny _ _ (PySem.call (Value.ref _) _ _) _ _ _); (fail_if_success with_reducible show wpAny _ _ (pyIter _) _ _ _); (fail_if_success with_reducible show wpAny _ _ (binaryOp Operator.Mod _ _) _ _ _); (fail_if_success with_reducible show wpAny _ _ (binaryOp Operator.Add (Value.str _ _) (Value.str _ _)) _ _ _); (fail_if_success with_reducible show wpAny _ _ (exec (Stmt.For _ _ _ _ _) _) _ _ _); first | walk1 | (dsimp only; walk1)))
  rename_i Da ws h4 F4 N4 hI hC hL lD
  simp only [item_digit hf10] at F4
  refine' kst_listL (σ := Str × Tok) (l := Da) (vs := ws) (nn := 0) (fun _ => [(Da, listOf ws.toArray 0)]) (fun c => [(Str.ofString "row", .str c.1 c.2)]) (fun _ => True)
    [Str.ofString "figure"] (fun pre c => c.1 = sOf ((firstOf ns :: pre.map (figN (firstOf ns))).map (48 + ·))) (sOf [48 + firstOf ns], _) ?hh ?hl hI ?F ?N trivial ?k0 ?p0 ?turn ?done
  (case hh => exact rfl)
  (case F => exact F4)
  (case hl => exact fun _ => List.Mem.head _)
  (case N => exact fun p hp => N4 p (by rw [List.mem_singleton] at hp; subst hp; k_mem))
  (case k0 => kst_all)
  (case p0 => exact rfl)
  (case turn =>
    intro c pre post x t u h5 tk5 own e5 hmem hoff5 _ hP5 F5 N5
    clear N4 F4
    obtain ⟨rw, tr⟩ := c
    dsimp only at F5 N5 hP5
    dsimp only [List.map] at hoff5
    subst hP5
    repeat' (first | (k_unfold; (try dsimp only)) | ((fail_if_success with_reducible show wpAny _ _ (PySem.call (Value.ref _) _ _) _ _ _); (fail_if_success with_reducible show wpAny _ _ (pyIter _) _ _ _); (fail_if_success with_reducible show wpAny _ _ (binaryOp Operator.Mod _ _) _ _ _); (fail_if_success with_reducible show wpAny _ _ (binaryOp Operator.Add (Value.str _ _) (Value.str _ _)) _ _ _); first | walk1 | (dsimp only; walk1)))
    refine mod_to (v := ((x.natAbs % 14 : Nat) : Int)) (by decide) (abs_mod x 14 (by decide)) ?_
    have hpl : pre.length ≤ 14 := by
      have e6 := congrArg List.length e5
      have e7 := (figsOf_length ns).2
      unfold figsOf at e7
      change ((numsOf ns).drop 1).length = _ at e6
      rw [List.length_cons, List.length_map, e6] at e7
      simp only [List.length_append, List.length_cons] at e7
      (first | lia | omega)
    by_cases h9 : 9 < x.natAbs % 14
    · have hfx : figN (firstOf ns) x = firstOf ns := by unfold figN; rw [if_pos h9]
      have hstep : (firstOf ns :: pre.map (figN (firstOf ns))).map (48 + ·) ++ [48 + firstOf ns] = (firstOf ns :: (pre ++ [x]).map (figN (firstOf ns))).map (48 + ·) := by
        simp [hfx]
      repeat' (first | (k_unfold; (try dsimp only)) | ((fail_if_success with_reducible show wpAny _ _ (PySem.call (Value.ref _) _ _) _ _ _); (fail_if_success with_reducible show wpAny _ _ (pyIter _) _ _ _); (fail_if_success with_reducible show wpAny _ _ (binaryOp Operator.Mod _ _) _ _ _); (fail_if_success with_reducible show wpAny _ _ (binaryOp Operator.Add (Value.str _ _) (Value.str _ _)) _ _ _); first | walk1 | (dsimp only; walk1)))
      rw [item_digit hf10]
      refine PyProof.Rows.add_str ?_ ?sz1
      (case sz1 => rw [sOf_length, sOf_length, List.length_map, sizeLine_eq]; simp only [List.length_cons, List.length_map, List.length_nil]; (first | lia | omega))
      intro t7 tk7
      rw [sOf_append, hstep]
      repeat' (first | (k_unfold; (try dsimp only)) | ((fail_if_success with_reducible show wpAny _ _ (PySem.call (Value.ref _) _ _) _ _ _); (fail_if_success with_reducible show wpAny _ _ (pyIter _) _ _ _); (fail_if_success with_reducible show wpAny _ _ (binaryOp Operator.Mod _ _) _ _ _); (fail_if_success with_reducible show wpAny _ _ (binaryOp Operator.Add (Value.str _ _) (Value.str _ _)) _ _ _); (fail_if_success with_reducible show InvEndN _ _ _ _ _ _ _); first | walk1 | (dsimp only; walk1)))
      rename Fr _ _ _ _ => F8
      rename News _ _ _ _ => N8
      refine' kst_end ((_, t7) : Str × Tok) F8 N8 ?hn1 ?ho1 ?ha1 trivial ?hk1 ?hr1 rfl
      (case hn1 => exact List.forall_mem_cons.mpr ⟨List.mem_append_left _ (.head _), List.forall_mem_nil _⟩)
      (case ho1 => exact fun p hp => List.mem_append_right _ hp)
      (case ha1 => exact rfl)
      (case hk1 => kst_all)
      (case hr1 =>
        intro z z1 z2 z3
        have z4 := z2 _ (List.Mem.head _)
        dsimp only at z4
        have z5 : z ≠ Str.ofString "figure" := by
          intro e; subst e; simp at z3
        simp only [if_neg z4, if_neg z5, if_neg z1, kstB, z3, Bool.false_eq_true, if_false])
    · have hfx : figN (firstOf ns) x = x.natAbs % 14 := by unfold figN; rw [if_neg h9]
      have hstep : (firstOf ns :: pre.map (figN (firstOf ns))).map (48 + ·) ++ [48 + x.natAbs % 14] = (firstOf ns :: (pre ++ [x]).map (figN (firstOf ns))).map (48 + ·) := by
        simp [hfx]
      repeat' (first | (k_unfold; (try dsimp only)) | ((fail_if_success with_reducible show wpAny _ _ (PySem.call (Value.ref _) _ _) _ _ _); (fail_if_success with_reducible show wpAny _ _ (pyIter _) _ _ _); (fail_if_success with_reducible show wpAny _ _ (binaryOp Operator.Mod _ _) _ _ _); (fail_if_success with_reducible show wpAny _ _ (binaryOp Operator.Add (Value.str _ _) (Value.str _ _)) _ _ _); first | walk1 | (dsimp only; walk1)))
      rw [item_digit (by (first | lia | omega))]
      refine PyProof.Rows.add_str ?_ ?sz2
      (case sz2 => rw [sOf_length, sOf_length, List.length_map, sizeLine_eq]; simp only [List.length_cons, List.length_map, List.length_nil]; (first | lia | omega))
      intro t7 tk7
      rw [sOf_append, hstep]
      repeat' (first | (k_unfold; (try dsimp only)) | ((fail_if_success with_reducible show wpAny _ _ (PySem.call (Value.ref _) _ _) _ _ _); (fail_if_success with_reducible show wpAny _ _ (pyIter _) _ _ _); (fail_if_success with_reducible show wpAny _ _ (binaryOp Operator.Mod _ _) _ _ _); (fail_if_success with_reducible show wpAny _ _ (binaryOp Operator.Add (Value.str _ _) (Value.str _ _)) _ _ _); (fail_if_success with_reducible show InvEndN _ _ _ _ _ _ _); first | walk1 | (dsimp only; walk1)))
      rename Fr _ _ _ _ => F8
      rename News _ _ _ _ => N8
      refine' kst_end ((_, t7) : Str × Tok) F8 N8 ?hn2 ?ho2 ?ha2 trivial ?hk2 ?hr2 rfl
      (case hn2 => exact List.forall_mem_cons.mpr ⟨List.mem_append_left _ (.head _), List.forall_mem_nil _⟩)
      (case ho2 => exact fun p hp => List.mem_append_right _ hp)
      (case ha2 => exact rfl)
      (case hk2 => kst_all)
      (case hr2 =>
        intro z z1 z2 z3
        have z4 := z2 _ (List.Mem.head _)
        dsimp only at z4
        have z5 : z ≠ Str.ofString "figure" := by
          intro e; subst e; simp at z3
        simp only [if_neg z4, if_neg z5, if_neg z1, kstB, z3, Bool.false_eq_true, if_false]))
  (case done =>
    intro c u h5 tk5 _ hP5 F5 N5
    clear N4 F4
    obtain ⟨rw, tr⟩ := c
    dsimp only at F5 N5 hP5
    subst hP5
    dsimp only
    repeat' (first | (k_unfold; (try dsimp only)) | ((fail_if_success with_reducible show wpAny _ _ (PySem.call (Value.ref _) _ _) _ _ _); (fail_if_success with_reducible show wpAny _ _ (pyIter _) _ _ _); (fail_if_success with_reducible show wpAny _ _ (binaryOp Operator.Mod _ _) _ _ _); (fail_if_success with_reducible show wpAny _ _ (binaryOp Operator.Add (Value.str _ _) (Value.str _ _)) _ _ _); first | walk1 | (dsimp only; walk1)))
    exact ret _ _ _ (St.of_fr F5 N5 (fun _ h => nomatch h)))
end Mine

end TxtC7
section TxtC8
theorem Mine.Off.offC8 : True := by
  w_top off
  trivial
open PySem PySem.W PySem.Spec PySem.Calls PyProof.Rows
set_option Elab.async false
set_option maxRecDepth 100000
set_option maxHeartbeats 2000000
namespace Mine

theorem c66 {w : World} {A : Around} {s : Shared} {base g : Heap} {frs : List Env} {p : Program} {loose : List Str} {mean : ExcName → Option Value} {mg mb : Str → Option Value} {R : Result → Shared → Prop}
    (B : Below A base frs g) (X : (hd.heap_39 w.params).In g) (T : Top p loose mean mg mb g) (S : St g [] s.heap) (hh : A.handled = none) (hdp : A.depth + 120 < 900) (hun : A.units + 1000 < 9000)
    {n : Nat} {ta tb tc : Tok} (hn : n ≤ 15)
    (ret : ∀ x h' dr tk', St g [] h' → R (.ok (.ret (.ref x))) { s with heap := h', drawn := dr, toks := tk' }) :
    codeAny (model PySem.Challenge.rw_nb0217_01.row.prog w) A (.call (.ref 66) ⟨[.int n ta, .int 5 tb, .int 2048 tc], []⟩) R s := by
  obtain ⟨ahd, dp, afr, agd, aun⟩ := A
  obtain rfl : ahd = none := hh
  dsimp only at hdp hun
  revert X; k_fill; intro X
  refine' enterG S X T ?k6 ?k7 ?k8 ?k9 ?kB ?_ ?c2 ?c3 ?c4 ?c5
  (case k6 => k_is)
  (case k7 => k_is)
  (case k8 => show _ < 1000; (try dsimp only); first | exact rm0 hdp | (first | lia | omega))
  (case k9 => exact binds_K (X.keeps S.keep) rfl (by k_is) rfl rfl rfl)
  (case c5 => decide)
  (case kB => exact locs rfl)
  (case c2 => exact rfl)
  (case c3 => exact rfl)
  (case c4 => exact rfl)
  intro L' h' F' N' l1 hLs
  (try k_lt l1)
  (try dsimp only)
  (try k_fold)
  clear S
  repeat' (first | (k_unfold; (try dsimp only)) | ((fail_if_success with_reducible show wpAny _ _ (PySem.call (Value.ref _) _ _) _ _ _); (fail_if_success with_reducible show wpAny _ _ (pyIter _) _ _ _); (fail_if_success with_reducible show wpAny _ _ (getMethod (Value.ref _) _ _) _ _ _); (fail_if_success with_reducible show wpAny _ _ (truthy (Value.ref _)) _ _ _); first | walk1 | (dsimp only; walk1)))
  rename_i hsW _ _ _
  refine' truthy_setK ?N ?m hsW (by decide) ?_
  (case N => assumption)
  (case m => k_mem)
  repeat' (first | (k_unfold; (try dsimp only)) | ((fail_if_success with_reducible show wpAny _ _ (PySem.call (Value.ref _) _ _) _ _ _); (fail_if_success with_reducible show wpAny _ _ (pyIter _) _ _ _); (fail_if_success with_reducible show wpAny _ _ (getMethod (Value.ref _) _ _) _ _ _); (fail_if_success with_reducible show wpAny _ _ (truthy (Value.ref _)) _ _ _); first | walk1 | (dsimp only; walk1)))
  refine' method_popK ?N2 ?m2 hsW (by decide) ?_
  (case N2 => assumption)
  (case m2 => k_mem)
  dsimp only
  repeat' (first | (k_unfold; (try dsimp only)) | ((fail_if_success with_reducible show wpAny _ _ (PySem.call (Value.ref _) _ _) _ _ _); (fail_if_success with_reducible show wpAny _ _ (pyIter _) _ _ _); (fail_if_success with_reducible show wpAny _ _ (getMethod (Value.ref _) _ _) _ _ _); (fail_if_success with_reducible show wpAny _ _ (truthy (Value.ref _)) _ _ _); first | walk1 | (dsimp only; walk1)))
  rename Fr _ _ _ _ => F3
  rename News _ _ _ _ => N3
  refine' pop_oneK F3 N3 ?U hsW ?_
  (case U => k_updF)
  intro o4 h4 dr4 tk4 hs4 F4 N4
  clear hsW F3 N3
  repeat' (first | (k_unfold; (try dsimp only)) | ((fail_if_success with_reducible show wpAny _ _ (PySem.call (Value.ref _) _ _) _ _ _); (fail_if_success with_reducible show wpAny _ _ (pyIter _) _ _ _); (fail_if_success with_reducible show wpAny _ _ (getMethod (Value.ref _) _ _) _ _ _); (fail_if_success with_reducible show wpAny _ _ (truthy (Value.ref _)) _ _ _); first | walk1 | (dsimp only; walk1)))
  refine' truthy_setK ?N5 ?m5 hs4 (by decide) ?_
  (case N5 => assumption)
  (case m5 => k_mem)
  repeat' (first | (k_unfold; (try dsimp only)) | ((fail_if_success with_reducible show wpAny _ _ (PySem.call (Value.ref _) _ _) _ _ _); (fail_if_success with_reducible show wpAny _ _ (pyIter _) _ _ _); (fail_if_success with_reducible show wpAny _ _ (getMethod (Value.ref _) _ _) _ _ _); (fail_if_success with_reducible show wpAny _ _ (truthy (Value.ref _)) _ _ _); first | walk1 | (dsimp only; walk1)))
  refine' truthy_setK (S := fun _ => false) (k := 0) ?N6 ?m6 ?s6 (by decide) ?_
  (case N6 => assumption)
  (case m6 => k_mem)
  (case s6 => exact setObjOf_fresh _)
  repeat' (first | (k_unfold; (try dsimp only)) | ((fail_if_success with_reducible show wpAny _ _ (PySem.call (Value.ref _) _ _) _ _ _); (fail_if_success with_reducible show wpAny _ _ (pyIter _) _ _ _); (fail_if_success with_reducible show wpAny _ _ (getMethod (Value.ref _) _ _) _ _ _); (fail_if_success with_reducible show wpAny _ _ (truthy (Value.ref _)) _ _ _); first | walk1 | (dsimp only; walk1)))
  rename Fr _ _ _ _ => F9
  rename News _ _ _ _ => N9
  exact ret _ _ _ _ (St.of_fr F9 N9 (fun _ h => nomatch h))
end Mine

end TxtC8
section TxtC9
theorem Mine.Off.offC9 : True := by
  w_top off
  trivial
open PySem PySem.W PySem.Spec PySem.Calls PyProof.Rows
set_option Elab.async false
set_option maxRecDepth 100000
set_option maxHeartbeats 2000000
namespace Mine

theorem noCode_tab {ps : Array Value} (h : ∀ q t, ps[1]? ≠ some (.str q t)) : NoCode (tabObj ps) := fun cvs q t e => by
  have e4 : ps = cvs := by simpa [tabObj] using e
  rw [← e4]; exact h q t
theorem c73 {w : World} {A : Around} {s : Shared} {base g : Heap} {frs : List Env} {p : Program} {loose : List Str} {mean : ExcName → Option Value} {mg mb : Str → Option Value} {R : Result → Shared → Prop}
    (B : Below A base frs g) (X : (hd.heap_39 w.params).In g) (T : Top p loose mean mg mb g) (C : CodeHd g 72 68) (S : St g [(68, tabObj #[])] s.heap) (hh : A.handled = none) (hdp : A.depth + 130 < 900) (hun : A.units + 1100 < 9000)
    {Rw : List Nat} {ta : Tok} (hR : Rw.length ≤ 15) (hR1 : 1 ≤ Rw.length) (hdg : ∀ c ∈ Rw, 48 ≤ c ∧ c ≤ 57)
    (ret : ∀ ps h' dr t' tk', NoCode (tabObj ps) → St g [(68, tabObj ps)] h' → R (.ok (.ret (.int ((NumText.digitsVal Rw : Nat) : Int) t'))) { s with heap := h', drawn := dr, toks := tk' }) :
    codeAny (model PySem.Challenge.rw_nb0217_01.row.prog w) A (.call (.ref 73) ⟨[.str (sOf Rw) ta], []⟩) R s := by
  obtain ⟨ahd, dp, afr, agd, aun⟩ := A
  obtain rfl : ahd = none := hh
  dsimp only at hdp hun
  have hlen : (sOf Rw).length = Rw.length := sOf_length Rw
  revert X; k_fill; intro X
  refine' enterC S X T ?k6 ?k7 ?k8 ?k9 ?kB ?kD ?_ ?c2 ?c3 ?c4
  (case k6 => k_is)
  (case k7 => k_is)
  (case k8 => show _ < 1000; (try dsimp only); first | exact rm0 hdp | (first | lia | omega))
  (case k9 => exact BindsTo.of_eq rfl)
  (case kB => exact rfl)
  (case kD => decide +kernel)
  (case c2 => exact rfl)
  (case c3 => exact rfl)
  (case c4 => exact rfl)
  intro L' h' tk' cells' F' N' Y' l1 hLs
  (try k_lt l1)
  k_cells Y'
  (try simp only [List.cons_append, List.nil_append] at N')
  (try dsimp only)
  (try k_fold)
  clear S
  repeat' (first | (k_unfold; (try dsimp only)) | ((fail_if_success with_reducible show wpAny _ _ (PySem.call (Value.ref _) _ _) _ _ _); (fail_if_success with_reducible show wpAny _ _ (pyIter _) _ _ _); first | walk1 | (dsimp only; walk1)))
  rename Fr _ _ _ _ => F9
  rename News _ _ _ _ => N9
  refine callG B F9 N9 rfl rfl [] (fun _ h => nomatch h) ?_
  intro g2 B2 st2 S2 back
  rw [hlen]
  refine' c66 ?B1 ?X1 ?T1 ?S1 rfl ?d1 ?u1 hR ?_
  (case B1 => exact B2)
  (case X1 => exact X.keeps st2)
  (case T1 => exact T.keeps st2)
  (case S1 => exact S2)
  (case d1 => show dp + 1 + 120 < 900; first | exact rm1 hdp (by decide) | (first | lia | omega))
  (case u1 => show aun + 3 + 1000 < 9000; first | exact rm3 hun (by decide) | (first | lia | omega))
  intro x3 h3 dr3 tk3 S3
  obtain ⟨F3, N3⟩ := back _ _ S3
  replace N3 := N3 _ (fun p hp => ⟨hp, fun h => nomatch h⟩)
  simp only [List.nil_append] at N3
  clear back S3 S2 B2 st2 F9 N9
  dsimp only
  repeat' (first | (k_unfold; (try dsimp only)) | ((fail_if_success with_reducible show wpAny _ _ (PySem.call (Value.ref _) _ _) _ _ _); (fail_if_success with_reducible show wpAny _ _ (pyIter _) _ _ _); first | walk1 | (dsimp only; walk1)))
  rename Fr _ _ _ _ => F9
  rename News _ _ _ _ => N9
  refine wpAny_call ?_
  refine' code_nest B F9 X N9 T ?kA ?kF ?kK ?k6 ?k7 ?k8 ?k9 ?kB ?_ ?c2 ?c3 ?c4 ?c5
  (case kA => exact Around.frames_deeper B.stack)
  (case kF => exact rfl)
  (case kK => exact rfl)
  (case k6 => k_mem)
  (case k7 => exact codeRec_news N9 (by k_mem) (by assumption) (by assumption))
  (case k8 => show dp + 1 < 1000; (first | lia | omega))
  (case k9 => exact BindsTo.of_eq rfl)
  (case c5 => decide)
  (case kB => exact locs rfl)
  (case c2 => exact rfl)
  (case c3 => exact rfl)
  (case c4 => exact rfl)
  intro g4 L4 h4 FG4 F4 N4 B4 X4 T4
  (try dsimp only)
  (try k_fold)
  repeat' (first | (k_unfold; (try dsimp only)) | ((fail_if_success with_reducible show wpAny _ _ (PySem.call (Value.ref _) _ _) _ _ _); (fail_if_success with_reducible show wpAny _ _ (pyIter _) _ _ _); first | walk1 | (dsimp only; walk1)))
  rw [slice_all]
  refine KIN.call_text (int_digits hdg (by intro e; rw [e] at hR1; simp at hR1) (by (first | lia | omega))) (by (first | lia | omega)) ?_
  repeat' (first | (k_unfold; (try dsimp only)) | ((fail_if_success with_reducible show wpAny _ _ (PySem.call (Value.ref _) _ _) _ _ _); (fail_if_success with_reducible show wpAny _ _ (pyIter _) _ _ _); first | walk1 | (dsimp only; walk1)))
  rename Fr _ _ _ _ => F8
  rename News _ _ _ _ => N8
  refine' ret _ _ _ _ _ ?nc (St.of_fr F8 N8 (List.forall_mem_cons.mpr ⟨?m1, List.forall_mem_nil _⟩))
  (case m1 => k_mem)
  (case nc => exact noCode_tab (fun q t => by simp [rawInt]))
end Mine

end TxtC9
section TxtD1
theorem Mine.Off.offD1 : True := by
  w_top off
  trivial
open PySem PySem.W PySem.Spec PySem.Calls PyProof.Rows
set_option Elab.async false
set_option maxRecDepth 100000
set_option maxHeartbeats 2000000
namespace Mine

theorem c80 {w : World} {A : Around} {s : Shared} {base g : Heap} {frs : List Env} {p : Program} {loose : List Str} {mean : ExcName → Option Value} {mg mb : Str → Option Value} {R : Result → Shared → Prop}
    (B : Below A base frs g) (X : (hd.heap_39 w.params).In g) (T : Top p loose mean mg mb g) (C : CodeHd g 72 68) (S : St g [(68, tabObj #[])] s.heap) (hh : A.handled = none) (hdp : A.depth + 140 < 900) (hun : A.units + 1200 < 9000)
    {Rw : List Nat} {ta : Tok} (hR : Rw.length ≤ 15) (hR1 : 1 ≤ Rw.length) (hdg : ∀ c ∈ Rw, 48 ≤ c ∧ c ≤ 57)
    (ret : ∀ ps h' dr t' tk', NoCode (tabObj ps) → St g [(68, tabObj ps)] h' → R (.ok (.ret (.int ((NumText.digitsVal Rw : Nat) : Int) t'))) { s with heap := h', drawn := dr, toks := tk' }) :
    codeAny (model PySem.Challenge.rw_nb0217_01.row.prog w) A (.call (.ref 80) ⟨[.str (sOf (Rw.intersperse 95 ++ [32, 10])) ta], []⟩) R s := by
  obtain ⟨ahd, dp, afr, agd, aun⟩ := A
  obtain rfl : ahd = none := hh
  dsimp only at hdp hun
  revert X; k_fill; intro X
  refine' enterG S X T ?k6 ?k7 ?k8 ?k9 ?kB ?_ ?c2 ?c3 ?c4 ?c5
  (case k6 => k_is)
  (case k7 => k_is)
  (case k8 => show _ < 1000; (try dsimp only); first | exact rm0 hdp | (first | lia | omega))
  (case k9 => exact BindsTo.of_eq rfl)
  (case c5 => decide)
  (case kB => exact locs rfl)
  (case c2 => exact rfl)
  (case c3 => exact rfl)
  (case c4 => exact rfl)
  intro L' h' F' N' l1 hLs
  (try k_lt l1)
  (try dsimp only)
  (try k_fold)
  clear S
  repeat' (first | (k_unfold; (try dsimp only)) | ((fail_if_success with_reducible show wpAny _ _ (PySem.call (Value.ref _) _ _) _ _ _); (fail_if_success with_reducible show wpAny _ _ (pyIter _) _ _ _); first | walk1 | (dsimp only; walk1)))
  dsimp only
  refine wpAny_with_toks (n := 1) (by dsimp only; simp) (SC.rstrip ?_ ?sz)
  (case sz => rw [sOf_length, sizeLine_eq, List.length_append, List.length_intersperse]; simp only [List.length_cons, List.length_nil]; (first | lia | omega))
  intro t1 k1 hk1
  dsimp only at hk1
  repeat' (first | (k_unfold; (try dsimp only)) | ((fail_if_success with_reducible show wpAny _ _ (PySem.call (Value.ref _) _ _) _ _ _); (fail_if_success with_reducible show wpAny _ _ (pyIter _) _ _ _); first | walk1 | (dsimp only; walk1)))
  have hne : Rw ≠ [] := by intro e; rw [e] at hR1; simp at hR1
  rw [rstrip_join hne hdg]
  refine' SC.replaceW ?a1 ?a2 ?a3 (by decide +kernel) (by rw [sOf_length, List.length_intersperse]; (first | lia | omega)) (by decide +kernel) ?_
  (case a1 => refine neN ?_; (first | lia | omega))
  (case a2 => refine neN ?_; (first | lia | omega))
  (case a3 => refine neN ?_; (first | lia | omega))
  intro t2 k2
  rw [strike_row hdg]
  repeat' (first | (k_unfold; (try dsimp only)) | ((fail_if_success with_reducible show wpAny _ _ (PySem.call (Value.ref _) _ _) _ _ _); (fail_if_success with_reducible show wpAny _ _ (pyIter _) _ _ _); first | walk1 | (dsimp only; walk1)))
  rename Fr _ _ _ _ => F9
  rename News _ _ _ _ => N9
  refine callG B F9 N9 rfl rfl _ (fun _ h => h) ?_
  intro g2 B2 st2 S2 back
  refine' c73 ?B1 ?X1 ?T1 ?C1 ?S1 rfl ?d1 ?u1 hR hR1 hdg ?_
  (case B1 => exact B2)
  (case X1 => exact X.keeps st2)
  (case T1 => exact T.keeps st2)
  (case C1 => exact C.keeps st2)
  (case S1 => exact S2)
  (case d1 => show dp + 1 + 130 < 900; first | exact rm1 hdp (by decide) | (first | lia | omega))
  (case u1 => show aun + 3 + 1100 < 9000; first | exact rm3 hun (by decide) | (first | lia | omega))
  intro ps h3 dr3 t3 tk3 nc3 S3
  obtain ⟨F3, N3⟩ := back _ _ S3
  replace N3 := N3 [] (fun _ h => nomatch h)
  simp only [List.append_nil] at N3
  clear back S2 B2 st2 F9 N9
  dsimp only
  repeat' (first | (k_unfold; (try dsimp only)) | ((fail_if_success with_reducible show wpAny _ _ (PySem.call (Value.ref _) _ _) _ _ _); (fail_if_success with_reducible show wpAny _ _ (pyIter _) _ _ _); first | walk1 | (dsimp only; walk1)))
  exact ret _ _ _ _ _ nc3 (St.of_fr F3 N3 (fun _ h => h))
end Mine

end TxtD1
section TxtW4
theorem Mine.Off.offW4 : True := by
  w_top off
  trivial
open PySem PySem.W PySem.Spec PySem.Calls PyProof.Rows
set_option Elab.async false
set_option maxRecDepth 100000
set_option maxHeartbeats 2000000
namespace Mine

section
variable {prog : Program} {w : World} {A A₀ : Around} {s : Shared} {base g h₀ : Heap} {outer : List Env} {news : List (Addr × Obj)} {env : Env} {L : Addr} {m : Str → Option Value}
theorem askT (B : Below A₀ base outer h₀) (F : Fr h₀ L s.heap m) (N : News h₀ L s.heap news) (D : KtsDicts (outer.filterMap (·.frame)) h₀) (hA : A.frames = some (env :: outer)) (hf : env.frame = some L) (hke : env.scope.kind = .function) :
    ∃ g, Fr h₀ L g m ∧ Below A base (env :: outer) g ∧ h₀.StaysIn g ∧ St g news s.heap ∧ KtsDicts ((env :: outer).filterMap (·.frame)) g := by
  obtain ⟨FG, BG, st, _⟩ := groundX (A := A) (env := env) (R := fun _ _ => True) B F N hA hf hke
  refine ⟨hideAll s.heap (news.map (·.1)), FG, BG, st, ⟨fun b o e => of_hideAll _ e, fun p hp => ⟨(N p hp).1, hideAll_none _ (List.mem_map_of_mem hp)⟩, Nat.le_of_eq (hideAll_size _ _)⟩, fun b hb => ?_⟩
  rw [List.filterMap_cons, hf] at hb
  obtain ⟨oL, es, ep, hL, hLd, r⟩ := FG.ns
  rcases List.mem_cons.mp hb with rfl | hb
  · exact ⟨oL, es, ep, hL, hLd⟩
  · obtain ⟨o, es', n', q1, q2⟩ := D b hb
    exact ⟨o, es', n', st _ _ q1, q2⟩
theorem callT {M : Model} {E : Value → Shared → Prop} {Q : Value → Shared → Prop} {fv : Value} {pos : List Value} (B : Below A base outer h₀) (F : Fr h₀ L s.heap m) (N : News h₀ L s.heap news) (D : KtsDicts (outer.filterMap (·.frame)) h₀) (hf : env.frame = some L) (hke : env.scope.kind = .function)
    (h : ∀ g, Fr h₀ L g m → Below (A.deeper env) base (env :: outer) g → h₀.StaysIn g → St g news s.heap → KtsDicts ((env :: outer).filterMap (·.frame)) g →
      codeC M (A.deeper env) (.call fv ⟨pos, []⟩) (fun r s' => match r with | .ok (.ret v) => Q v s' | .ok _ => False | .error e => E e s') s) :
    wpC M (A.deeper env) (call fv pos) Q E s := by
  obtain ⟨g, FG, B2, st, S, D2⟩ := askT (A := A.deeper env) B F N D (Around.frames_deeper B.stack) hf hke
  exact wpC_call (h g FG B2 st S D2)
theorem execs_split {env : Env} (n : Nat) : ∀ (l : List Stmt), execs l env = (execs (l.take n) env >>= fun f => match f with | .next => execs (l.drop n) env | f => pure f) := by
  induction n with
  | zero => intro l; rfl
  | succ n ih =>
    intro l
    cases l with
    | nil => rfl
    | cons st l =>
      show execs (st :: l) env = (execs (st :: l.take n) env >>= fun f => match f with | .next => execs (l.drop n) env | f => pure f)
      rw [execs_cons, execs_cons, bind_assoc]
      refine congrArg _ (funext fun f => ?_)
      cases f <;> first | exact ih l | rfl
theorem wpC_execs_split {M : Model} {A : Around} {E : Value → Shared → Prop} {s : Shared} {env : Env} (n : Nat) {l : List Stmt} {Q : Flow → Shared → Prop} (h : wpAny M A (execs (l.take n) env) (fun f s' => match f with | .next => wpC M A (execs (l.drop n) env) Q E s' | f => Q f s') E s) :
    wpC M A (execs l env) Q E s := by
  rw [execs_split n l]
  refine wpC_pre (wpAny_mono h (fun f s' h' => ?_) fun _ _ h' => h')
  cases f <;> first | exact h' | exact wpC_pure h'
end
end Mine

end TxtW4
section TxtE2
theorem Mine.Off.offE2 : True := by
  w_top off
  trivial
open PySem PySem.W PySem.Spec PySem.Calls PyProof.Rows
set_option Elab.async false
set_option maxRecDepth 100000
set_option maxHeartbeats 2000000
namespace Mine

abbrev fL (x : Str) : Int := Txt.find x (Str.ofString "(")
abbrev fR (x : Str) : Int := Txt.find3 x (Str.ofString ")") (Txt.find x (Str.ofString "(") + 1)
abbrev winP (x : Str) : List Str := Txt.split (Txt.slice x (some (fL x + 1)) (some (fR x))) (Txt.item x (fL x + 1))
abbrev badCode (x : Str) : Prop := (Txt.slice x none (some 3) != Str.ofString "229") = true
abbrev badShape (x : Str) : Prop := fL x < 0 ∨ fR x < 0 ∨ (Txt.item x (fL x + 1) != Txt.item x (fR x - 1)) = true ∨ ¬ ((winP x).length : Int) = 5
theorem c129 {w : World} {s : Shared} {base g : Heap} {p : Program} {loose : List Str} {mean : ExcName → Option Value} {mg mb : Str → Option Value} {R : Result → Shared → Prop}
    {cn : Str} {cs : Scope} {a L : Addr} {ccd : Value} {cl : List (Str × Addr)}
    (B : Below (callerA.deeper (envX cn cs L a ccd cl)) base [envX cn cs L a ccd cl] g) (X : (hd.heap_39 w.params).In g) (T : Top p loose mean mg mb g) (S : St g [] s.heap) (XB : (hd.heap_39 w.params).In base) (TB : Top p loose mean mg mb base) (D : KtsDicts (([envX cn cs L a ccd cl] : List Env).filterMap (·.frame)) g)
    {rp : List Nat} {tr : Tok} {tup : Addr} {v1 : Str} {t1 : Tok} {v2 : Value} (hlen : rp.length ≤ 64) (htp : IsTup g tup #[.str v1 t1, v2])
    (hw : ¬ Txt.find (sOf rp) (Str.ofString "(") < 0 → ¬ Txt.find3 (sOf rp) (Str.ofString ")") (Txt.find (sOf rp) (Str.ofString "(") + 1) < 0 → ∃ l r : Nat, Txt.find (sOf rp) (Str.ofString "(") = l ∧ Txt.find3 (sOf rp) (Str.ofString ")") (Txt.find (sOf rp) (Str.ofString "(") + 1) = r ∧ l < r ∧ r < rp.length)
    (hint : ¬ badCode (sOf rp) → ¬ badShape (sOf rp) → ∃ ds, (winP (sOf rp))[3]? = some (sOf ds) ∧ ds ≠ [] ∧ (∀ d ∈ ds, 48 ≤ d ∧ d ≤ 57) ∧ ds.length ≤ 15)
    (r1 : badCode (sOf rp) → ∀ h' tk' t, Stw (([envX cn cs L a ccd cl] : List Env).filterMap (·.frame)) g [] h' → R (.ok (.ret (.str (Str.ofString "another code: " ++ sOf rp) t))) { s with heap := h', toks := tk' })
    (r2 : ¬ badCode (sOf rp) → badShape (sOf rp) → ∀ h' tk' t, Stw (([envX cn cs L a ccd cl] : List Env).filterMap (·.frame)) g [] h' → R (.ok (.ret (.str (Str.ofString "another shape: " ++ sOf rp) t))) { s with heap := h', toks := tk' })
    (r3 : ¬ badCode (sOf rp) → ¬ badShape (sOf rp) → ∀ ds, (winP (sOf rp))[3]? = some (sOf ds) → ∀ h' tk' q t, Stw (([envX cn cs L a ccd cl] : List Env).filterMap (·.frame)) g [(q, { cls := .type "tuple", data := .seq #[.str v1 t1, .int (PySem.NumText.digitsVal ds) t] })] h' → R (.ok (.ret (.ref q))) { s with heap := h', toks := tk' }) :
    codeAny (model PySem.Challenge.rw_nb0217_01.row.prog w) (callerA.deeper (envX cn cs L a ccd cl)) (.call (.ref 129) ⟨[.str (sOf rp) tr, .ref tup], []⟩) R s := by
  revert X; k_fill; intro X
  have hl : (sOf rp).length = rp.length := sOf_length rp
  refine' enterG S X T ?k6 ?k7 ?k8 ?k9 ?kB ?_ ?c2 ?c3 ?c4 ?c5
  (case k6 => k_is)
  (case k7 => k_is)
  (case k8 => k_room)
  (case k9 => exact BindsTo.of_eq rfl)
  (case c5 => decide)
  (case kB => exact locs rfl)
  (case c2 => exact rfl)
  (case c3 => exact rfl)
  (case c4 => exact rfl)
  intro L' h' F' N' l1 hLs
  (try k_lt l1)
  (try dsimp only)
  (try k_fold)
  repeat' (first | (k_unfold; (try dsimp only)) | (k_end; wrow_close) | ((fail_if_success with_reducible show wpAny _ _ (PySem.call (Value.type "str") _ _) _ _ _); (fail_if_success with_reducible show wpAny _ _ (PySem.call (Value.builtin "len") _ _) _ _ _); first | walk1 | (dsimp only; walk1)) | (leave1; try dsimp only))
  rotate_left 4
  refine len_strs (by first | assumption | exact Fr.lst (by assumption) (by assumption) | exact News.isList (by assumption) (by first | exact .head _ | exact .tail _ (.head _) | exact .tail _ (.tail _ (.head _)) | exact .tail _ (.tail _ (.tail _ (.head _))))) (by have h9 := len_le_of_split ‹List.map _ _ = Txt.split _ _›; (first | lia | omega)) ?_
  repeat' (first | (k_unfold; (try dsimp only)) | (k_end; wrow_close) | ((fail_if_success with_reducible show wpAny _ _ (PySem.call (Value.type "str") _ _) _ _ _); (fail_if_success with_reducible show wpAny _ _ (subscriptTail _ _ (Value.ref _) (Value.int _ _)) _ _ _); first | walk1 | (dsimp only; walk1)) | (leave1; try dsimp only))
  rotate_left 1
  · have FG9 := ‹Fr g _ _ _›
    have htp2 := htp.keeps FG9.keep
    have q1 := ‹(Txt.slice _ none (some 3) != _) = false›
    have q2 := ‹¬ Txt.find _ _ < 0›
    have q3 := ‹¬ Txt.find3 _ _ _ < 0›
    have q4 := ‹(Txt.item _ _ != Txt.item _ _) = false›
    have q5 := ‹(↑_ : Int) = 5›
    have q6 := ‹List.map _ _ = Txt.split _ _›
    have nc : ¬ badCode (sOf rp) := by rw [badCode, q1]; exact Bool.false_ne_true
    have ns : ¬ badShape (sOf rp) := by
      rintro (h | h | h | h)
      · exact q2 h
      · exact q3 h
      · rw [q4] at h; exact Bool.false_ne_true h
      · exact h (by rw [winP, ← q6, List.length_map]; exact q5)
    obtain ⟨ds, d1, d2, d3, d4⟩ := hint nc ns
    have d0 := d1
    rw [winP, ← q6] at d1
    replace r3 := r3 nc ns ds d0
    clear q1 q2 q3 q4 nc ns d0 hint r1 r2
    refine item_tupleL (Fr.tup (by assumption) htp2) (by decide) (by decide) (by rfl) (by rfl) ?_
    repeat' (first | (k_unfold; (try dsimp only)) | (k_end; wrow_close) | ((fail_if_success with_reducible show wpAny _ _ (subscriptTail _ _ (Value.ref _) (Value.int _ _)) _ _ _); first | walk1 | (dsimp only; walk1)) | (leave1; try dsimp only))
    refine item_strs (by first | assumption | exact Fr.lst (by assumption) (by assumption) | exact News.isList (by assumption) (by first | exact .head _ | exact .tail _ (.head _) | exact .tail _ (.tail _ (.head _)) | exact .tail _ (.tail _ (.tail _ (.head _))))) (by decide) (by (first | lia | omega)) (by decide) ?_
    intro _ _ _
    clear q5 q6
    k_steps
    have q7 := ‹(List.map _ _)[Int.toNat 3]? = some _›
    obtain rfl := Option.some.inj (q7.symm.trans (show (List.map _ _)[Int.toNat 3]? = some (sOf ds) from ‹_›))
    refine KIN.call_text (int_digits d3 d2 (by (first | lia | omega))) (by rw [sOf_length]; (first | lia | omega)) ?_
    k_steps
    rename News g _ _ _ => N8
    rename Fr g _ _ _ => F8
    refine r3 _ _ _ _ (Stw.of ⟨F8.keep, fun q hq => (by
      have e9 := List.mem_singleton.mp hq
      rw [e9]
      exact ⟨(N8 _ (List.Mem.head _)).1, (N8 _ (List.Mem.head _)).2.2⟩), Nat.le_trans F8.above (Nat.le_of_lt F8.ns.lt)⟩)
  all_goals (
    rename Got _ _ _ _ _ => G9
    rename News _ _ _ _ => N9
    rename (hd.heap_39 w.params).In _ => X9
    rename Fr _ _ _ _ => F9
    refine' str_own (C := _) (X9.keeps F9.keep) ?s1 ?s2 ?s3 (OwnAt.of G9 (by assumption)) ?_
    (case s1 => k_is)
    (case s2 => k_is)
    (case s3 => first | units_room | k_room)
    k_steps
    rename News _ _ _ _ => N8
    rename Fr _ _ _ _ => F8
    have S8 := Stw.mk ‹KtsTurn _ g _› (St.of_fr F8 N8 (hid := []) (fun _ h => nomatch h))
    first
      | exact r1 ‹_› _ _ _ S8
      | (refine r2 (by rw [badCode, ‹(Txt.slice _ none (some 3) != _) = false›]; exact Bool.false_ne_true) ?_ _ _ _ S8
         first
           | exact .inl ‹_›
           | exact .inr (.inl ‹_›)
           | exact .inr (.inr (.inl ‹_›))
           | (refine .inr (.inr (.inr fun h => ?_))
              rw [winP, ← ‹List.map _ _ = Txt.split _ _›, List.length_map] at h
              contradiction)))
end Mine

end TxtE2
section TxtE3
theorem Mine.Off.offE3 : True := by
  w_top off
  trivial
open PySem PySem.W PySem.Spec PySem.Calls PyProof.Rows
set_option Elab.async false
set_option maxRecDepth 100000
set_option maxHeartbeats 2000000
namespace Mine

theorem isFnK {K : Frag} {f : Addr} {name qual : Str} {params : Arguments} {body : List Stmt} {scope : Scope} {dV kV doc pm cdv ct oc : Value} {an od : Option Addr} {osl : Array (Option Value)}
    (ho : K.lookup f = some ⟨oc, od, .func (fnOf name qual params body scope dV kV doc pm an cdv ct), osl⟩) : ∃ o fd, K.lookup f = some o ∧ o.data = .func fd := ⟨_, _, ho, rfl⟩
theorem c129n {w : World} {s : Shared} {base g : Heap} {p : Program} {loose : List Str} {mean : ExcName → Option Value} {mg mb : Str → Option Value} {R : Result → Shared → Prop}
    {cn : Str} {cs : Scope} {a L : Addr} {ccd : Value} {cl : List (Str × Addr)}
    (B : Below (callerA.deeper (envX cn cs L a ccd cl)) base [envX cn cs L a ccd cl] g) (X : (hd.heap_39 w.params).In g) (T : Top p loose mean mg mb g) (S : St g [] s.heap) (XB : (hd.heap_39 w.params).In base) (TB : Top p loose mean mg mb base) (D : KtsDicts (([envX cn cs L a ccd cl] : List Env).filterMap (·.frame)) g)
    {rp : List Nat} {tr : Tok} {tup : Addr} {v1 : Str} {t1 : Tok} {v2 : Value} (hlen : rp.length ≤ 64) (htp : IsTup g tup #[.str v1 t1, v2])
    (hw : ¬ Txt.find (sOf rp) (Str.ofString "(") < 0 → ¬ Txt.find3 (sOf rp) (Str.ofString ")") (Txt.find (sOf rp) (Str.ofString "(") + 1) < 0 → ∃ l r : Nat, Txt.find (sOf rp) (Str.ofString "(") = l ∧ Txt.find3 (sOf rp) (Str.ofString ")") (Txt.find (sOf rp) (Str.ofString "(") + 1) = r ∧ l < r ∧ r < rp.length)
    (nc : ¬ badCode (sOf rp)) (ns : ¬ badShape (sOf rp)) (h3 : (winP (sOf rp))[3]? = some (Str.ofString ""))
    (ret : ∀ h' tk' t, Stw (([envX cn cs L a ccd cl] : List Env).filterMap (·.frame)) g [] h' → R (.ok (.ret (.str (Str.ofString "no number") t))) { s with heap := h', toks := tk' }) :
    codeC (model PySem.Challenge.rw_nb0217_01.row.prog w) (callerA.deeper (envX cn cs L a ccd cl)) (.call (.ref 129) ⟨[.str (sOf rp) tr, .ref tup], []⟩) R s := by
  revert X; k_fill; intro X
  have hl : (sOf rp).length = rp.length := sOf_length rp
  refine' enterGC S X T ?k6 ?k7 ?k8 ?k9 ?kB ?_ ?c2 ?c3 ?c4 ?c5
  (case k6 => k_is)
  (case k7 => k_is)
  (case k8 => k_room)
  (case k9 => exact BindsTo.of_eq rfl)
  (case c5 => decide)
  (case kB => exact locs rfl)
  (case c2 => exact rfl)
  (case c3 => exact rfl)
  (case c4 => exact rfl)
  intro L' h' F' N' l1 hLs
  (try k_lt l1)
  (try dsimp only)
  (try k_fold)
  refine wpC_execs_cons (wpC_Try_except (wpC_execs_cons (wpC_Return_some (wpC_Call ?_))))
  k_steps
  obtain ⟨o58, fd58, ho58, hdt⟩ : ∃ o fd, (hd.heap_39 w.params).lookup 58 = some o ∧ o.data = .func fd := by
    refine' isFnK ?a
    (case a => k_is)
  refine wpC_callWith_def hdt ?_
  k_steps
  · exact F'.keep _ _ (X _ _ ho58)
  clear ho58 hdt o58 fd58
  refine callT B F' N' D rfl rfl fun g2 FG2 B2 st2 S2 D2 => ?_
  have X2 := X.keeps st2
  have T2 := T.keeps st2
  revert X2; k_fill; intro X2
  refine' enterGC S2 X2 T2 ?k6 ?k7 ?k8 ?k9 ?kB ?_ ?c2 ?c3 ?c4 ?c5
  (case k6 => k_is)
  (case k7 => k_is)
  (case k8 => k_room)
  (case k9 => exact BindsTo.of_eq rfl)
  (case c5 => decide)
  (case kB => exact locs rfl)
  (case c2 => exact rfl)
  (case c3 => exact rfl)
  (case c4 => exact rfl)
  intro L2 h2 F2 N2 l2 hLs2
  (try k_lt l2)
  (try dsimp only)
  (try k_fold)
  have htp2 := htp.keeps st2
  have q1 : (Txt.slice (sOf rp) none (some 3) != Str.ofString "229") = false := by
    cases h : (Txt.slice (sOf rp) none (some 3) != Str.ofString "229") with
    | true => exact absurd h nc
    | false => rfl
  have q2 : ¬ Txt.find (sOf rp) (Str.ofString "(") < 0 := fun h => ns (.inl h)
  have q3 : ¬ Txt.find3 (sOf rp) (Str.ofString ")") (Txt.find (sOf rp) (Str.ofString "(") + 1) < 0 := fun h => ns (.inr (.inl h))
  have q4 : (Txt.item (sOf rp) (Txt.find (sOf rp) (Str.ofString "(") + 1) != Txt.item (sOf rp) (Txt.find3 (sOf rp) (Str.ofString ")") (Txt.find (sOf rp) (Str.ofString "(") + 1) - 1)) = false := by
    cases h : (Txt.item (sOf rp) (Txt.find (sOf rp) (Str.ofString "(") + 1) != Txt.item (sOf rp) (Txt.find3 (sOf rp) (Str.ofString ")") (Txt.find (sOf rp) (Str.ofString "(") + 1) - 1)) with
    | true => exact absurd (.inr (.inr (.inl h))) ns
    | false => rfl
  refine wpC_execs_split 9 ?_
  dsimp only [List.take, List.drop]
  repeat' (first | (k_unfold; (try dsimp only)) | (k_end; wrow_close) | ((fail_if_success with_reducible show wpAny _ _ (PySem.call (Value.builtin "len") _ _) _ _ _); first | walk1 | (dsimp only; walk1)) | (leave1; try dsimp only))
  refine len_strs (by first | assumption | exact Fr.lst (by assumption) (by assumption) | exact News.isList (by assumption) (by first | exact .head _ | exact .tail _ (.head _) | exact .tail _ (.tail _ (.head _)) | exact .tail _ (.tail _ (.tail _ (.head _))))) (by have h9 := len_le_of_split ‹List.map _ _ = Txt.split _ _›; (first | lia | omega)) ?_
  repeat' (first | (k_unfold; (try dsimp only)) | (k_end; wrow_close) | ((fail_if_success with_reducible show wpAny _ _ (subscriptTail _ _ (Value.ref _) (Value.int _ _)) _ _ _); (fail_if_success with_reducible show wpAny _ _ (execs (Stmt.Raise _ _ _ :: _) _) _ _ _); first | walk1 | (dsimp only; walk1)) | (leave1; try dsimp only))
  · exfalso
    have q6 := ‹List.map _ _ = Txt.split _ _›
    have q7 := ‹¬ (↑(List.length _) : Int) = 5›
    exact ns (.inr (.inr (.inr fun h => q7 (by rw [winP, ← q6, List.length_map] at h; exact h))))
  refine item_tupleL (Fr.tup (by assumption) htp2) (by decide) (by decide) (by rfl) (by rfl) ?_
  k_steps
  rw [winP, ← ‹List.map _ _ = Txt.split _ _›] at h3
  show wpC _ _ _ _ _ _
  refine wpC_execs_cons (wpC_Assign_Name (wpC_Call ?_))
  k_steps
  refine wpC_callWith_type ?_
  repeat' (first | (k_unfold; (try dsimp only)) | (k_end; wrow_close) | ((fail_if_success with_reducible show wpAny _ _ (subscriptTail _ _ (Value.ref _) (Value.int _ _)) _ _ _); first | walk1 | (dsimp only; walk1)) | (leave1; try dsimp only))
  refine item_strs (by first | assumption | exact Fr.lst (by assumption) (by assumption) | exact News.isList (by assumption) (by first | exact .head _ | exact .tail _ (.head _) | exact .tail _ (.tail _ (.head _)) | exact .tail _ (.tail _ (.tail _ (.head _))))) (by decide) (by (first | lia | omega)) (by decide) ?_
  intro _ _ _
  k_steps
  have q7 := ‹(List.map _ _)[Int.toNat 3]? = some _›
  obtain rfl := Option.some.inj (q7.symm.trans (show (List.map _ _)[Int.toNat 3]? = some (Str.ofString "") from ‹_›))
  refine int_raises rfl fun h8 tk8 e8 hx8 => ?_
  k_steps
  rename News _ _ _ _ => N8
  rename Fr _ _ _ _ => F8
  exact ret _ _ _ (Stw.mk ‹KtsTurn _ g _› (St.of_fr F8 N8 (hid := []) (fun _ h => nomatch h)))
end Mine

end TxtE3
section TxtL1
theorem Mine.Off.offL1 : True := by
  w_top off
  trivial
open PySem PySem.W PySem.Spec PySem.Calls PyProof.Rows
set_option Elab.async false
set_option maxRecDepth 100000
set_option maxHeartbeats 2000000
namespace Mine

theorem enter_guard {M : Model} {A : Around} {s : Shared} {f : Value} {pos : List Value} {c : ClaimW} {cl : Str → Option Addr} {mean : ExcName → Option Value} {args : List WData} {s₁ : Shared}
    (h : codeC M A (.call f ⟨pos, []⟩) (GoodWG c cl mean args s₁) s) (hT : GoodWG c cl mean args s₁ (.ok (.ret (.bool true))) s) :
    wpAny M A (guardT (pure (.bool true)) (PySem.call f pos)) (fun v s' => GoodWG c cl mean args s₁ (.ok (.ret v)) s') (fun e s' => GoodWG c cl mean args s₁ (.error e) s') s :=
  wpAny_guard (wpC_call (codeC_mono h fun res s' g => by rcases g.1 with ⟨v, _, _, rfl, _⟩ | ⟨e, _, _, rfl, _⟩ <;> exact g)) (wpAny_pure hT)
theorem oldK_ghost {h₁ h : Heap} {tabs : List (Addr × Addr)} (hT : TabsAt tabs h₁) (hk : (ghostOf h₁ tabs).StaysIn h) (hg : GrownAll tabs h) : OldK h₁ h := by
  have grown : ∀ b o, b ∈ tabs.map (·.2) → h₁.get? b = some o → isCodeTable h₁ b ∧ o = tabObj #[] ∧ ∃ ps, h.get? b = some (tabObj ps) := fun b o hb e => by
    obtain ⟨q, hq, rfl⟩ := List.mem_map.mp hb
    have e2 := (hT q hq).2
    rw [e] at e2
    exact ⟨((hT q hq).1.tab (hT q hq).2).isCodeTable, Option.some.inj e2, hg.get q hq⟩
  refine ⟨fun b o e => ?_, fun b o e => ?_⟩
  · by_cases hb : b ∈ tabs.map (·.2)
    · obtain ⟨ht, rfl, ps, hP⟩ := grown b o hb e
      exact .inr (.inl ⟨ht, rfl, #[], ps, rfl, by rw [Array.empty_append]; exact hP⟩)
    · exact .inl (hk _ _ (ghost_ne e hb))
  · by_cases hb : b ∈ tabs.map (·.2)
    · obtain ⟨_, _, ps, hP⟩ := grown b o hb e
      exact ⟨_, hP⟩
    · exact ⟨o, hk _ _ (ghost_ne e hb)⟩
theorem goodEnd {c : ClaimW} {cl : Str → Option Addr} {mean : ExcName → Option Value} {args : List WData} {s₁ s' : Shared} (hr : ∀ x, c.raises args x = false) (hp : c.post args (.bool true) args = true) (hk : OldK s₁.heap s'.heap) (ho : s'.os = s₁.os) (hg : s'.gens = #[]) :
    GoodWG c cl mean args s₁ (.ok (.ret (.bool true))) s' :=
  ⟨.inl ⟨_, _, [], rfl, hr, .bool true, hp, fun _ => ⟨List.nodup_nil, fun _ h => nomatch h⟩⟩, hk, ho, .of_eq hg⟩
theorem main (cLaw : ∀ {w : World} {s : Shared} {g : Heap} {p : Program} {loose : List Str} {mean : ExcName → Option Value} {mg mb : Str → Option Value} {R : Result → Shared → Prop} {l : Addr} {vs : List Value} {ns : List Int}
    (_ : (hd.heap_39 w.params).In g) (_ : Top p loose mean mg mb g) (_ : CodeHd g 107 103) (_ : CodeHd g 100 96) (_ : CodeHd g 72 68) (_ : St g [(103, tabObj #[]), (96, tabObj #[]), (68, tabObj #[])] s.heap) (_ : g.IsList l vs.toArray) (_ : IntsAre vs ns) (_ : ns.length ≤ 63)
    (_ : ∀ h' dr tk' ps1 ps2 ps3, St g [(103, tabObj ps1), (96, tabObj ps2), (68, tabObj ps3)] h' → R (.ok (.ret (.bool true))) { s with heap := h', drawn := dr, toks := tk' }),
    codeC (model PySem.Challenge.rw_nb0217_01.row.prog w) callerA (.call (.ref 141) ⟨[.ref l], []⟩) R s) : PySem.Challenge.rw_nb0217_01.Holds := by
  refine Mine.hd ?_
  k_fill
  intro w s₀ s₁ mg mb G Y fa o pm cd doc dV kV ho hd hcd hD hmg hg args vals as hpre hlay hrd hwl hlo
  have KX := km_in_of Y
  km_tabs Y
  have X := (Ground.X G).1
  have V := (Ground.X G).2
  refine Ground.open G ?_
  intro T B D TE TW
  try (refine guard_noD D (by decide +kernel) ?_; clear D)
  km_lay T hmg ho hd cd
  obtain rfl : fa = 141 := by
    have e0 : nsIn (Mine.hd.heap_39 w.params) mainGlobals (Str.ofString "law") = some (some (.ref 141)) := by k_is
    have e1 := mg_of KX (Top.g T) e0
    rw [show mg (Str.ofString "law") = some (.ref fa) from hmg] at e1
    injection e1 with e1
    injection e1
  clear hmg
  wrow_args hpre hlay hrd hwl hlo
  refine enter_guard ?_ ?_
  · have hT9' := hT9
    refine cLaw (ghost_K hT9 KX (by kernel_rfl)) (ghost_top hT9 T) (ghost_code hT9).1 (ghost_code hT9).2.1 (ghost_code hT9).2.2.1 ?_ (ghost_list hT9 ‹_›) ‹_› (by (first | lia | omega)) fun h' dr tk' ps1 ps2 ps3 S => ?_
    · refine ⟨fun b o e => of_hideAll _ e, fun q hq => ?_, Nat.le_of_eq (hideAll_size _ _)⟩
      have hm : q ∈ tabNews [(107, 103), (100, 96), (72, 68)] := hq
      obtain ⟨r, hr, rfl⟩ := List.mem_map.mp hm
      exact ⟨(hT9 r hr).2, hideAll_none _ (List.mem_map_of_mem hr)⟩
    · refine goodEnd (fun _ => rfl) (by kernel_rfl) (oldK_ghost hT9 S.keep ⟨⟨_, (S.hid _ (List.Mem.head _)).1⟩, ⟨_, (S.hid _ (List.Mem.tail _ (List.Mem.head _))).1⟩, ⟨_, (S.hid _ (List.Mem.tail _ (List.Mem.tail _ (List.Mem.head _)))).1⟩, trivial⟩) rfl ‹s₁.gens = #[]›
  · exact goodEnd (fun _ => rfl) (by kernel_rfl) (OldK.refl _) rfl ‹s₁.gens = #[]›
end Mine

end TxtL1
section TxtP5
theorem Mine.Off.offP5 : True := by
  w_top off
  trivial
open PySem PySem.W PySem.Spec PySem.Calls PyProof.Rows
set_option Elab.async false
namespace Mine
theorem carried_strs : ∀ {ys : List Value} {l : List Str}, CarriedAll ys (l.map PyData.str) → StrsAre ys l
  | _, [], h => by cases h; exact .nil
  | _, _ :: _, h => by
    cases h with
    | cons a b =>
      cases a
      exact .cons _ _ (carried_strs b)
theorem signs_sOf (l : List Nat) : signs (sOf l) = l.map fun n => sOf [n] := by
  unfold signs sOf
  simp
theorem join_row (l : List Nat) : Txt.join (Str.ofString "_") (l.map fun n => sOf [n]) = sOf (l.intersperse 95) := by
  show Builtin.Str.glued (Str.ofString "_") (l.map fun n => sOf [n]) = _
  rw [StrLaws.glued_eq_join]
  induction l with
  | nil => rfl
  | cons a t ih =>
    cases t with
    | nil => rfl
    | cons b t =>
      show sOf [a] ++ Str.ofString "_" ++ Str.join (Str.ofString "_") (List.map (fun n => sOf [n]) (b :: t)) = _
      rw [ih, show Str.ofString "_" = sOf [95] from by decide +kernel, sOf_append, sOf_append]
      rfl
theorem row_weight (l : List Nat) : ((l.map fun n => sOf [n]).map (·.length)).sum + (l.map fun n => sOf [n]).length = 2 * l.length := by
  induction l with
  | nil => rfl
  | cons a t ih =>
    simp only [List.map_cons, List.sum_cons, List.length_cons] at ih ⊢
    have : (sOf [a]).length = 1 := sOf_length [a]
    (first | lia | omega)
theorem len_intersperse (x : Nat) : ∀ l : List Nat, (l.intersperse x).length ≤ 2 * l.length
  | [] => by simp
  | [_] => by simp
  | a :: b :: t => by
    have := len_intersperse x (b :: t)
    show (a :: x :: (b :: t).intersperse x).length ≤ _
    simp only [List.length_cons] at this ⊢
    (first | lia | omega)
theorem row_end (l : List Nat) : sOf l ++ Str.ofString " \n" = sOf (l ++ [32, 10]) := by
  rw [show Str.ofString " \n" = sOf [32, 10] from by decide +kernel, sOf_append]
theorem rowOf_dig (ns : List Int) : ∀ c ∈ rowOf ns, 48 ≤ c ∧ c ≤ 57 := fun c hc => by
  obtain ⟨d, hd, rfl⟩ := List.mem_map.mp hc
  have := figsOf_lt ns d hd
  (first | lia | omega)
theorem rowOf_len (ns : List Int) : 8 ≤ (rowOf ns).length ∧ (rowOf ns).length ≤ 15 := by rw [rowOf, List.length_map]; exact figsOf_length ns
end Mine

end TxtP5
section TxtP6
theorem Mine.Off.offP6 : True := by
  w_top off
  trivial
open PySem PySem.W PySem.Spec PySem.Calls PyProof.Rows PySem.NumText
set_option Elab.async false
namespace Mine
/-! ## places of a sign, parts between it -/
def posL (c : Nat) : Nat → List Nat → List Nat
  | _, [] => []
  | k, x :: t => if x = c then k :: posL c (k + 1) t else posL c (k + 1) t
def splitL (c : Nat) : List Nat → List (List Nat)
  | [] => [[]]
  | x :: t => if x = c then [] :: splitL c t else match splitL c t with
    | [] => [[x]]
    | p :: r => (x :: p) :: r
def joinL (c : Nat) : List (List Nat) → List Nat
  | [] => []
  | [p] => p
  | p :: q :: r => p ++ c :: joinL c (q :: r)
theorem splitL_ne (c : Nat) : ∀ w, splitL c w ≠ []
  | [] => by simp [splitL]
  | x :: t => by
    unfold splitL
    split
    · simp
    · split <;> simp
theorem splitL_free {c : Nat} : ∀ {p : List Nat}, c ∉ p → splitL c p = [p]
  | [], _ => rfl
  | x :: t, h => by
    have h1 : x ≠ c := fun e => h (e ▸ List.Mem.head _)
    have h2 : c ∉ t := fun e => h (List.Mem.tail _ e)
    unfold splitL
    rw [if_neg h1, splitL_free h2]
theorem splitL_cut {c : Nat} (r : List Nat) : ∀ {p : List Nat}, c ∉ p → splitL c (p ++ c :: r) = p :: splitL c r
  | [], _ => by
    show splitL c (c :: r) = _
    rw [splitL, if_pos rfl]
  | x :: t, h => by
    have h1 : x ≠ c := fun e => h (e ▸ List.Mem.head _)
    have h2 : c ∉ t := fun e => h (List.Mem.tail _ e)
    show splitL c (x :: (t ++ c :: r)) = _
    rw [splitL, if_neg h1, splitL_cut r h2]
theorem splitL_join {c : Nat} : ∀ {ps : List (List Nat)}, ps ≠ [] → (∀ p ∈ ps, c ∉ p) → splitL c (joinL c ps) = ps
  | [], h, _ => absurd rfl h
  | [p], _, h => splitL_free (h p (List.Mem.head _))
  | p :: q :: r, _, h => by
    show splitL c (p ++ c :: joinL c (q :: r)) = _
    rw [splitL_cut _ (h p (List.Mem.head _)), splitL_join (by simp) (fun z hz => h z (List.Mem.tail _ hz))]
theorem join_sOf (c : Nat) : ∀ ps : List Str, Str.join ⟨#[c]⟩ ps = sOf (joinL c (ps.map fun p => p.cps.toList))
  | [] => rfl
  | [p] => sOf_eta p
  | p :: q :: r => by
    show p ++ (⟨#[c]⟩ : Str) ++ Str.join ⟨#[c]⟩ (q :: r) = sOf (p.cps.toList ++ c :: joinL c ((q :: r).map fun p => p.cps.toList))
    rw [join_sOf c (q :: r), sOf_eta p, show (⟨#[c]⟩ : Str) = sOf [c] from rfl, sOf_append, sOf_append, sOf_toList]
    simp
theorem split_sOf (c : Nat) (w : List Nat) : Txt.split (sOf w) ⟨#[c]⟩ = (splitL c w).map sOf := by
  have h1 := StrLaws.join_split (sOf w) ⟨#[c]⟩
  have h2 := StrLaws.split_free (sOf w) c
  have h3 : Txt.split (sOf w) ⟨#[c]⟩ ≠ [] := fun e => by have := split_pos (sOf w) ⟨#[c]⟩; rw [e] at this; simp at this
  rw [join_sOf, sOf_inj] at h1
  rw [← h1, splitL_join (by simpa using h3) (fun p hp => by
    obtain ⟨q, hq, rfl⟩ := List.mem_map.mp hp
    exact h2 q hq), h1, List.map_map]
  conv => lhs; rw [← List.map_id (Txt.split (sOf w) ⟨#[c]⟩)]
  exact List.map_congr_left fun p _ => sOf_eta p
theorem posL_ge {c : Nat} : ∀ {w : List Nat} {k j q : Nat}, (posL c k w)[j]? = some q → k ≤ q ∧ q < k + w.length
  | [], k, j, q, h => by simp [posL] at h
  | x :: t, k, j, q, h => by
    unfold posL at h
    rw [List.length_cons]
    split at h
    · cases j with
      | zero => simp at h; (first | lia | omega)
      | succ j =>
        rw [List.getElem?_cons_succ] at h
        have := posL_ge h; (first | lia | omega)
    · have := posL_ge h; (first | lia | omega)
theorem splitL_len (c : Nat) : ∀ w, (splitL c w).length = w.count c + 1
  | [] => rfl
  | x :: t => by
    unfold splitL
    by_cases h : x = c
    · rw [if_pos h, List.length_cons, splitL_len c t, h, List.count_cons_self]
    · rw [if_neg h]
      have h2 := splitL_len c t
      have h3 : List.count c (x :: t) = List.count c t := List.count_cons_of_ne h
      cases hs : splitL c t with
      | nil => exact absurd hs (splitL_ne c t)
      | cons p r => rw [hs] at h2; rw [h3]; simpa using h2
/-- the window ends with its (j+1)th mark -/
theorem ends_iff {c : Nat} : ∀ {w : List Nat} {k j e : Nat}, e + 1 ≤ w.length → ((w[e]? = some c ∧ (w.take (e + 1)).count c = j + 1) ↔ (posL c k w)[j]? = some (k + e))
  | [], k, j, e, he => by simp at he
  | x :: t, k, j, e, he => by
    unfold posL
    rw [List.take_succ_cons]
    by_cases h : x = c
    · rw [if_pos h, h, List.count_cons_self]
      cases e with
      | zero =>
        simp only [List.getElem?_cons_zero, List.take_zero, List.count_nil, true_and]
        cases j with
        | zero => simp
        | succ j =>
          rw [List.getElem?_cons_succ]
          constructor
          · intro q; (first | lia | omega)
          · intro q; have := posL_ge q; (first | lia | omega)
      | succ e =>
        rw [List.getElem?_cons_succ]
        have he' : e + 1 ≤ t.length := by simpa using he
        cases j with
        | zero =>
          simp only [List.getElem?_cons_zero]
          constructor
          · rintro ⟨q1, q2⟩
            have : c ∈ t.take (e + 1) := List.mem_iff_getElem?.mpr ⟨e, by rw [List.getElem?_take_of_lt (by (first | lia | omega))]; exact q1⟩
            have := List.count_pos_iff.mpr this
            (first | lia | omega)
          · intro q
            have := Option.some.inj q
            (first | lia | omega)
        | succ j =>
          rw [List.getElem?_cons_succ, show k + (e + 1) = k + 1 + e by (first | lia | omega), ← ends_iff (j := j) he']
          constructor
          · rintro ⟨a, b⟩; exact ⟨a, by (first | lia | omega)⟩
          · rintro ⟨a, b⟩; exact ⟨a, by (first | lia | omega)⟩
    · rw [if_neg h, show List.count c (x :: t.take e) = List.count c (t.take e) from List.count_cons_of_ne h]
      cases e with
      | zero =>
        simp only [List.getElem?_cons_zero, List.take_zero, List.count_nil]
        constructor
        · rintro ⟨q, _⟩; exact absurd (Option.some.inj q) h
        · intro q; have := posL_ge q; (first | lia | omega)
      | succ e =>
        rw [List.getElem?_cons_succ, show k + (e + 1) = k + 1 + e by (first | lia | omega), ← ends_iff (j := j) (by simpa using he)]
theorem part_zero {c : Nat} : ∀ {w : List Nat} {k d : Nat}, (posL c k w)[0]? = some (k + d) → (splitL c (w.take (d + 1)))[0]? = some (w.take d)
  | [], k, d, h => by simp [posL] at h
  | x :: t, k, d, h => by
    unfold posL at h
    rw [List.take_succ_cons]
    by_cases hx : x = c
    · rw [if_pos hx] at h
      have hd : d = 0 := by have := Option.some.inj h; (first | lia | omega)
      subst hd
      simp [splitL, hx]
    · rw [if_neg hx] at h
      cases d with
      | zero => have := posL_ge h; (first | lia | omega)
      | succ d =>
        have ih := part_zero (k := k + 1) (d := d) (by rw [h]; congr 1; (first | lia | omega))
        rw [splitL, if_neg hx]
        cases hs : splitL c (t.take (d + 1)) with
        | nil => exact absurd hs (splitL_ne _ _)
        | cons p r =>
          rw [hs] at ih
          simp only [List.getElem?_cons_zero, Option.some.injEq] at ih
          simp [ih]
theorem part_succ {c : Nat} : ∀ {w : List Nat} {k j p q : Nat}, (posL c k w)[j]? = some (k + p) → (posL c k w)[j + 1]? = some (k + q) → p < q ∧ (splitL c (w.take (q + 1)))[j + 1]? = some ((w.drop (p + 1)).take (q - p - 1))
  | [], k, j, p, q, h, _ => by simp [posL] at h
  | x :: t, k, j, p, q, h1, h2 => by
    unfold posL at h1 h2
    rw [List.take_succ_cons, List.drop_succ_cons]
    by_cases hx : x = c
    · rw [if_pos hx] at h1 h2
      rw [splitL, if_pos hx]
      rw [List.getElem?_cons_succ] at h2 ⊢
      have g2 := posL_ge h2
      obtain ⟨q, rfl⟩ : ∃ q', q = q' + 1 := ⟨q - 1, by (first | lia | omega)⟩
      have e2 : (posL c (k + 1) t)[j]? = some (k + 1 + q) := by rw [h2]; congr 1; (first | lia | omega)
      cases j with
      | zero =>
        have hp : p = 0 := by have := Option.some.inj h1; (first | lia | omega)
        subst hp
        refine ⟨by (first | lia | omega), ?_⟩
        rw [part_zero e2]
        simp
      | succ j =>
        rw [List.getElem?_cons_succ] at h1
        have g1 := posL_ge h1
        obtain ⟨p, rfl⟩ : ∃ p', p = p' + 1 := ⟨p - 1, by (first | lia | omega)⟩
        obtain ⟨i1, i2⟩ := part_succ (k := k + 1) (j := j) (p := p) (q := q) (by rw [h1]; congr 1; (first | lia | omega)) e2
        refine ⟨by (first | lia | omega), ?_⟩
        rw [i2, show q + 1 - (p + 1) - 1 = q - p - 1 by (first | lia | omega)]
    · rw [if_neg hx] at h1 h2
      have g1 := posL_ge h1
      have g2 := posL_ge h2
      obtain ⟨p, rfl⟩ : ∃ p', p = p' + 1 := ⟨p - 1, by (first | lia | omega)⟩
      obtain ⟨q, rfl⟩ : ∃ q', q = q' + 1 := ⟨q - 1, by (first | lia | omega)⟩
      obtain ⟨i1, i2⟩ := part_succ (k := k + 1) (j := j) (p := p) (q := q) (by rw [h1]; congr 1; (first | lia | omega)) (by rw [h2]; congr 1; (first | lia | omega))
      refine ⟨by (first | lia | omega), ?_⟩
      rw [splitL, if_neg hx]
      cases hs : splitL c (t.take (q + 1)) with
      | nil => exact absurd hs (splitL_ne _ _)
      | cons a r =>
        rw [hs, List.getElem?_cons_succ] at i2
        simp only [List.getElem?_cons_succ]
        rw [i2, show q + 1 - (p + 1) - 1 = q - p - 1 by (first | lia | omega)]
theorem posL_range (c : Nat) : ∀ (w : List Nat) (k : Nat), posL c k w = (List.range' k w.length).filter (fun j => decide (w[j - k]? = some c))
  | [], k => rfl
  | x :: t, k => by
    rw [posL, List.length_cons, List.range'_succ, List.filter_cons, posL_range c t (k + 1)]
    have e : List.filter (fun j => decide (t[j - (k + 1)]? = some c)) (List.range' (k + 1) t.length) = List.filter (fun j => decide ((x :: t)[j - k]? = some c)) (List.range' (k + 1) t.length) := by
      refine List.filter_congr fun j hj => ?_
      have := (List.mem_range'_1.mp hj).1
      rw [show j - k = j - (k + 1) + 1 by (first | lia | omega), List.getElem?_cons_succ]
    rw [e, Nat.sub_self, List.getElem?_cons_zero]
    by_cases h : x = c <;> simp [h]
/-! ## the number of a part -/
theorem digitsVal_append (a : List Nat) : ∀ b : List Nat, digitsVal (a ++ b) = digitsVal a * 10 ^ b.length + digitsVal b := by
  have key : ∀ r : List Nat, digitsVal (a ++ r.reverse) = digitsVal a * 10 ^ r.length + digitsVal r.reverse := by
    intro r
    induction r with
    | nil => simp [show digitsVal [] = 0 from rfl]
    | cons c t ih =>
      rw [List.reverse_cons, ← List.append_assoc, digitsVal_snoc, digitsVal_snoc, ih, List.length_cons, Nat.pow_succ]
      rw [Nat.add_mul, Nat.mul_assoc, Nat.add_assoc]
  intro b
  have := key b.reverse
  rwa [List.reverse_reverse, List.length_reverse] at this
theorem digitsVal_cut {a d z : List Nat} (hd : ∀ c ∈ d, 48 ≤ c ∧ c ≤ 57) (hz : ∀ c ∈ z, 48 ≤ c ∧ c ≤ 57) : digitsVal (a ++ d ++ z) / 10 ^ z.length % 10 ^ d.length = digitsVal d := by
  rw [digitsVal_append, Nat.add_comm, Nat.add_mul_div_right _ _ (Nat.pow_pos (by decide)), Nat.div_eq_of_lt (digitsVal_lt z hz), Nat.zero_add, digitsVal_append, Nat.add_comm, Nat.add_mul_mod_self_right, Nat.mod_eq_of_lt (digitsVal_lt d hd)]
theorem row_cut {row : List Nat} (hr : ∀ c ∈ row, 48 ≤ c ∧ c ≤ 57) {p q : Nat} (h1 : p < q) (h2 : q ≤ row.length) : digitsVal row / 10 ^ (row.length - q) % 10 ^ (q - p - 1) = digitsVal ((row.drop (p + 1)).take (q - p - 1)) := by
  have e : row.take (p + 1) ++ (row.drop (p + 1)).take (q - p - 1) ++ row.drop q = row := by
    rw [← List.take_add, show p + 1 + (q - p - 1) = q by (first | lia | omega), List.take_append_drop]
  have := digitsVal_cut (a := row.take (p + 1)) (d := (row.drop (p + 1)).take (q - p - 1)) (z := row.drop q) (fun c hc => hr c (List.mem_of_mem_drop (List.mem_of_mem_take hc))) (fun c hc => hr c (List.mem_of_mem_drop hc))
  rw [e, List.length_drop, List.length_take, List.length_drop, Nat.min_eq_left (by (first | lia | omega))] at this
  exact this
end Mine

end TxtP6
section TxtP7
theorem Mine.Off.offP7 : True := by
  w_top off
  trivial
open PySem PySem.W PySem.Spec PySem.Calls PyProof.Rows
set_option Elab.async false
set_option maxRecDepth 100000
set_option maxHeartbeats 2000000
namespace Mine

theorem lpar : Str.ofString "(" = ⟨#[40]⟩ := by decide +kernel
theorem rpar : Str.ofString ")" = ⟨#[41]⟩ := by decide +kernel
theorem getD_sOf (l : List Nat) (v : Nat) : (sOf l).cps.getD v 0 = l.getD v 0 := by simp [sOf, Array.getD_eq_getD_getElem?]
theorem get_sOf (l : List Nat) (v : Nat) : (sOf l).cps[v]? = l[v]? := by simp [sOf]
theorem at_one {l : List Nat} {c i : Nat} : StrLaws.At (sOf l) ⟨#[c]⟩ (sOf l).length i ↔ l[i]? = some c := by
  unfold StrLaws.At
  rw [StrLaws.subAt_one, sOf_toList]
theorem find_one (l : List Nat) (c : Nat) : (Txt.find (sOf l) ⟨#[c]⟩ = -1 ∧ ∀ k : Nat, l[k]? ≠ some c) ∨ ∃ i : Nat, Txt.find (sOf l) ⟨#[c]⟩ = (i : Int) ∧ l[i]? = some c ∧ ∀ k : Nat, k < i → l[k]? ≠ some c := by
  rcases find_whole (sOf l) ⟨#[c]⟩ with ⟨h1, h2⟩ | ⟨i, h1, h2, h3⟩
  · exact .inl ⟨h1, fun k hk => h2 k (at_one.mpr hk)⟩
  · exact .inr ⟨i, h1, at_one.mp h2, fun k hk h => h3 k hk (at_one.mpr h)⟩
theorem getD_some {l : List Nat} {c i : Nat} (h : i < l.length) : l.getD i 0 = c ↔ l[i]? = some c := by
  rw [List.getD_eq_getElem?_getD, List.getElem?_eq_getElem h]; simp
theorem find3_one (l : List Nat) (c i : Nat) : (Txt.find3 (sOf l) ⟨#[c]⟩ (i : Int) = -1 ∧ ∀ k : Nat, i ≤ k → l[k]? ≠ some c) ∨ ∃ k : Nat, Txt.find3 (sOf l) ⟨#[c]⟩ (i : Int) = (k : Int) ∧ i ≤ k ∧ l[k]? = some c ∧ ∀ v : Nat, i ≤ v → v < k → l[v]? ≠ some c := by
  have e : fromIndex (sOf l).length (i : Int) = i := by unfold fromIndex; rw [if_neg (by (first | lia | omega))]; (first | lia | omega)
  rcases StrLaws.find3_spec (sOf l) c (i : Int) with ⟨h1, h2⟩ | ⟨k, h1, h2, h3, h4, h5⟩
  · rw [e] at h2
    refine .inl ⟨h1, fun k hk h => ?_⟩
    have hl := (List.getElem?_eq_some_iff.mp h).1
    refine h2 k hk (by rw [sOf_length]; exact hl) ?_
    rw [getD_sOf]; exact (getD_some hl).mpr h
  · rw [e] at h2 h5
    rw [sOf_length] at h3
    rw [getD_sOf] at h4
    refine .inr ⟨k, h1, h2, (getD_some h3).mp h4, fun v h6 h7 h => ?_⟩
    have hl := (List.getElem?_eq_some_iff.mp h).1
    refine h5 v h6 h7 ?_
    rw [getD_sOf]; exact (getD_some hl).mpr h
theorem hw_all (rp : List Nat) : ¬ Txt.find (sOf rp) (Str.ofString "(") < 0 → ¬ Txt.find3 (sOf rp) (Str.ofString ")") (Txt.find (sOf rp) (Str.ofString "(") + 1) < 0 → ∃ l r : Nat, Txt.find (sOf rp) (Str.ofString "(") = l ∧ Txt.find3 (sOf rp) (Str.ofString ")") (Txt.find (sOf rp) (Str.ofString "(") + 1) = r ∧ l < r ∧ r < rp.length := by
  rw [lpar, rpar]
  intro h1 h2
  rcases find_one rp 40 with ⟨e, _⟩ | ⟨i, e, _⟩
  · rw [e] at h1; (first | lia | omega)
  rw [e, show (i : Int) + 1 = ((i + 1 : Nat) : Int) by (first | lia | omega)] at h2 ⊢
  rcases find3_one rp 41 (i + 1) with ⟨e3, _⟩ | ⟨k, e3, h3, h4, _⟩
  · rw [e3] at h2; (first | lia | omega)
  exact ⟨i, k, rfl, e3, by (first | lia | omega), (List.getElem?_eq_some_iff.mp h4).1⟩
theorem code228 (l : List Nat) : badCode (sOf (50 :: 50 :: 56 :: l)) := by
  have e : Txt.slice (sOf (50 :: 50 :: 56 :: l)) none (some 3) = sOf [50, 50, 56] := slice_ns (l := 50 :: 50 :: 56 :: l) (j := 3) (by simp)
  unfold badCode
  rw [e]; decide +kernel
theorem code229 (l : List Nat) : ¬ badCode (sOf (50 :: 50 :: 57 :: l)) := by
  have e : Txt.slice (sOf (50 :: 50 :: 57 :: l)) none (some 3) = sOf [50, 50, 57] := slice_ns (l := 50 :: 50 :: 57 :: l) (j := 3) (by simp)
  unfold badCode
  rw [e]; decide +kernel
theorem shapeNo {l : List Nat} (h : 40 ∉ l) : badShape (sOf l) := by
  refine .inl ?_
  unfold fL
  rw [lpar]
  rcases find_one l 40 with ⟨e, _⟩ | ⟨i, e, h1, _⟩
  · rw [e]; decide
  · exact absurd (List.mem_of_getElem? h1) h
theorem fL_at {l a z : List Nat} (hl : l = a ++ 40 :: z) (ha : 40 ∉ a) : fL (sOf l) = (a.length : Int) := by
  unfold fL
  rw [lpar]
  have h0 : l[a.length]? = some 40 := by rw [hl, List.getElem?_append_right (Nat.le_refl _), Nat.sub_self]; rfl
  rcases find_one l 40 with ⟨e, h1⟩ | ⟨i, e, h1, h2⟩
  · exact absurd h0 (h1 _)
  · rw [e]
    rcases Nat.lt_trichotomy i a.length with h | h | h
    · rw [hl, List.getElem?_append_left h] at h1
      exact absurd (List.mem_of_getElem? h1) ha
    · rw [h]
    · exact absurd h0 (h2 _ h)
theorem shapeOpen {l a z : List Nat} (hl : l = a ++ 40 :: z) (ha : 40 ∉ a) (hz : 41 ∉ z) : badShape (sOf l) := by
  refine .inr (.inl ?_)
  have e1 := fL_at hl ha
  unfold fL at e1
  unfold fR
  rw [e1, rpar, show (a.length : Int) + 1 = ((a.length + 1 : Nat) : Int) by (first | lia | omega)]
  rcases find3_one l 41 (a.length + 1) with ⟨e, _⟩ | ⟨i, e, h0, h1, _⟩
  · rw [e]; decide
  · rw [hl, List.getElem?_append_right (by (first | lia | omega)), show i - a.length = (i - a.length - 1) + 1 by (first | lia | omega), List.getElem?_cons_succ] at h1
    exact absurd (List.mem_of_getElem? h1) hz
theorem fR_at {l a win z : List Nat} (hl : l = a ++ 40 :: (win ++ 41 :: z)) (ha : 40 ∉ a) (hw : 41 ∉ win) : fR (sOf l) = ((a.length + 1 + win.length : Nat) : Int) := by
  have e1 := fL_at hl ha
  unfold fL at e1
  unfold fR
  rw [e1, rpar, show (a.length : Int) + 1 = ((a.length + 1 : Nat) : Int) by (first | lia | omega)]
  have get : ∀ i : Nat, a.length + 1 ≤ i → l[i]? = (win ++ 41 :: z)[i - a.length - 1]? := fun i hi => by
    rw [hl, List.getElem?_append_right (by (first | lia | omega)), show i - a.length = (i - a.length - 1) + 1 by (first | lia | omega), List.getElem?_cons_succ]
    rfl
  have h0 : l[a.length + 1 + win.length]? = some 41 := by
    rw [get _ (by (first | lia | omega)), show a.length + 1 + win.length - a.length - 1 = win.length by (first | lia | omega), List.getElem?_append_right (Nat.le_refl _), Nat.sub_self]; rfl
  rcases find3_one l 41 (a.length + 1) with ⟨e, h1⟩ | ⟨i, e, h3, h1, h2⟩
  · exact absurd h0 (h1 _ (by (first | lia | omega)))
  · rw [e]
    rcases Nat.lt_trichotomy i (a.length + 1 + win.length) with h | h | h
    · rw [get i h3, List.getElem?_append_left (by (first | lia | omega))] at h1
      exact absurd (List.mem_of_getElem? h1) hw
    · rw [h]
    · exact absurd h0 (h2 _ (by (first | lia | omega)) h)
theorem item_sOf {l : List Nat} {i c : Nat} (h : l[i]? = some c) : Txt.item (sOf l) (i : Int) = ⟨#[c]⟩ :=
  item_meets (by (first | lia | omega)) (by rw [Int.toNat_natCast, get_sOf]; exact h)
theorem one_ne (a b : Nat) : ((⟨#[a]⟩ : Str) != ⟨#[b]⟩) = true ↔ a ≠ b := by
  rw [bne_iff_ne, Ne, Ne, Str.mk.injEq]
  simp
theorem win_bad {l a win z : List Nat} (hl : l = a ++ 40 :: (win ++ 41 :: z)) (ha : 40 ∉ a) (hw : 41 ∉ win) : win = [] → badShape (sOf l) := by
  intro e
  refine .inr (.inr (.inl ?_))
  rw [fR_at hl ha hw, fL_at hl ha, e, List.length_nil, show ((a.length + 1 + 0 : Nat) : Int) - 1 = ((a.length : Nat) : Int) by (first | lia | omega), show (a.length : Int) + 1 = ((a.length + 1 : Nat) : Int) by (first | lia | omega)]
  rw [item_sOf (c := 41) (by rw [hl, e, List.getElem?_append_right (by (first | lia | omega)), show a.length + 1 - a.length = 0 + 1 by (first | lia | omega)]; rfl), item_sOf (c := 40) (by rw [hl, List.getElem?_append_right (Nat.le_refl _), Nat.sub_self]; rfl)]
  decide +kernel
theorem win_first {l a t z : List Nat} {c : Nat} (hl : l = a ++ 40 :: ((c :: t) ++ 41 :: z)) (ha : 40 ∉ a) : Txt.item (sOf l) (fL (sOf l) + 1) = ⟨#[c]⟩ := by
  rw [fL_at hl ha, show (a.length : Int) + 1 = ((a.length + 1 : Nat) : Int) by (first | lia | omega)]
  exact item_sOf (by rw [hl, List.getElem?_append_right (by (first | lia | omega)), show a.length + 1 - a.length = 0 + 1 by (first | lia | omega)]; rfl)
theorem win_last {l a t z : List Nat} {c : Nat} (hl : l = a ++ 40 :: ((c :: t) ++ 41 :: z)) (ha : 40 ∉ a) (hw : 41 ∉ c :: t) {x : Nat} (hx : (c :: t)[t.length]? = some x) : Txt.item (sOf l) (fR (sOf l) - 1) = ⟨#[x]⟩ := by
  rw [fR_at hl ha hw, List.length_cons, show ((a.length + 1 + (t.length + 1) : Nat) : Int) - 1 = ((a.length + (t.length + 1) : Nat) : Int) by (first | lia | omega)]
  refine item_sOf ?_
  rw [hl, List.getElem?_append_right (by (first | lia | omega)), show a.length + (t.length + 1) - a.length = t.length + 1 by (first | lia | omega), List.getElem?_cons_succ, List.getElem?_append_left (by simp)]
  exact hx
theorem win_parts {l a t z : List Nat} {c : Nat} (hl : l = a ++ 40 :: ((c :: t) ++ 41 :: z)) (ha : 40 ∉ a) (hw : 41 ∉ c :: t) : winP (sOf l) = (splitL c (c :: t)).map sOf := by
  unfold winP
  rw [win_first hl ha, fR_at hl ha hw, fL_at hl ha, show (a.length : Int) + 1 = ((a.length + 1 : Nat) : Int) by (first | lia | omega), slice_ss (by (first | lia | omega)) (by rw [hl]; simp; (first | lia | omega)), ← split_sOf]
  congr 2
  rw [show a.length + 1 + (c :: t).length - (a.length + 1) = (c :: t).length by (first | lia | omega), hl, show a ++ 40 :: (c :: t ++ 41 :: z) = (a ++ [40]) ++ ((c :: t) ++ 41 :: z) by simp]
  rw [show a.length + 1 = (a ++ [40]).length by simp, List.drop_left, List.take_left]
theorem win_iff {l a t z : List Nat} {c : Nat} (hl : l = a ++ 40 :: ((c :: t) ++ 41 :: z)) (ha : 40 ∉ a) (hw : 41 ∉ c :: t) : ¬ badShape (sOf l) ↔ (c :: t)[t.length]? = some c ∧ (c :: t).count c = 4 := by
  have hx : ∃ x, (c :: t)[t.length]? = some x := ⟨_, List.getElem?_eq_getElem (by simp)⟩
  obtain ⟨x, hx⟩ := hx
  have e1 := fL_at hl ha
  have e2 := fR_at hl ha hw
  have e3 := win_first hl ha
  have e4 := win_last hl ha hw hx
  have e5 : ((winP (sOf l)).length : Int) = 5 ↔ (c :: t).count c = 4 := by
    rw [win_parts hl ha hw, List.length_map, splitL_len]; (first | lia | omega)
  unfold badShape
  rw [e3, e4, one_ne, e5, hx]
  constructor
  · intro h
    refine ⟨?_, ?_⟩
    · congr 1
      by_cases q : c = x
      · exact q.symm
      · exact absurd (.inr (.inr (.inl q))) h
    · by_cases q : List.count c (c :: t) = 4
      · exact q
      · exact absurd (.inr (.inr (.inr q))) h
  · rintro ⟨h1, h2⟩ (h | h | h | h)
    · rw [e1] at h; (first | lia | omega)
    · rw [e2] at h; (first | lia | omega)
    · exact h (Option.some.inj h1).symm
    · exact h h2
/-- the law's marks -/
def marksOf (row : List Nat) (b : Nat) : List Nat := posL (row.getD b 0) b (row.drop b)
theorem marks_range {row : List Nat} {b : Nat} (hb : b < row.length) : marksOf row b = (List.range' b (row.length - b)).filter (fun k => decide (row[k]? = row[b]?)) := by
  unfold marksOf
  rw [posL_range, List.length_drop]
  refine List.filter_congr fun j hj => ?_
  have := (List.mem_range'_1.mp hj).1
  rw [List.getElem?_drop, show b + (j - b) = j by (first | lia | omega), List.getD_eq_getElem?_getD, List.getElem?_eq_getElem hb]
  rfl
theorem marks_lt {row : List Nat} {b j q : Nat} (h : (marksOf row b)[j]? = some q) : b ≤ q ∧ q < row.length := by
  have := posL_ge h
  rw [List.length_drop] at this
  (first | lia | omega)
theorem replyW {row : List Nat} {b e : Nat} (hr : ∀ c ∈ row, 48 ≤ c ∧ c ≤ 57) (hb : b < row.length) (h1 : b ≤ e) (h2 : e ≤ row.length) {l : List Nat} (hl : l = [50, 50, 57, 32] ++ row.take b ++ [40] ++ (row.drop b).take (e - b) ++ [41] ++ row.drop e) :
    ¬ badCode (sOf l) ∧ (¬ badShape (sOf l) ↔ ∃ m3, (marksOf row b)[3]? = some m3 ∧ e = m3 + 1) ∧
    (∀ m2 m3, (marksOf row b)[2]? = some m2 → (marksOf row b)[3]? = some m3 → e = m3 + 1 → m2 < m3 ∧ (winP (sOf l))[3]? = some (sOf ((row.drop (m2 + 1)).take (m3 - m2 - 1)))) := by
  have hl2 : l = ([50, 50, 57, 32] ++ row.take b) ++ 40 :: ((row.drop b).take (e - b) ++ 41 :: row.drop e) := by rw [hl]; simp
  have ha : 40 ∉ [50, 50, 57, 32] ++ row.take b := fun h => by
    rcases List.mem_append.mp h with h | h
    · revert h; decide
    · have := hr _ (List.mem_of_mem_take h); (first | lia | omega)
  have hw : 41 ∉ (row.drop b).take (e - b) := fun h => by have := hr _ (List.mem_of_mem_drop (List.mem_of_mem_take h)); (first | lia | omega)
  refine ⟨by rw [hl]; exact code229 _, ?_⟩
  obtain ⟨c, hc⟩ : ∃ c, c = row.getD b 0 := ⟨_, rfl⟩
  have hd : row.drop b = c :: row.drop (b + 1) := by
    rw [List.drop_eq_getElem_cons hb, hc, List.getD_eq_getElem?_getD, List.getElem?_eq_getElem hb]; rfl
  have hwl : (row.drop b).length = row.length - b := List.length_drop
  by_cases he : e = b
  · have hn : (row.drop b).take (e - b) = [] := by rw [he, Nat.sub_self]; rfl
    have hbad := win_bad hl2 ha hw hn
    refine ⟨⟨fun h => absurd hbad h, ?_⟩, ?_⟩
    · rintro ⟨m3, q1, q2⟩
      have := marks_lt q1
      (first | lia | omega)
    · intro m2 m3 _ q1 q2
      have := marks_lt q1
      (first | lia | omega)
  obtain ⟨d, rfl⟩ : ∃ d, e = b + d + 1 := ⟨e - b - 1, by (first | lia | omega)⟩
  have ht : (row.drop b).take (b + d + 1 - b) = c :: (row.drop (b + 1)).take d := by
    rw [show b + d + 1 - b = d + 1 by (first | lia | omega), hd, List.take_succ_cons]
  have htl : ((row.drop (b + 1)).take d).length = d := by rw [List.length_take, List.length_drop]; (first | lia | omega)
  rw [ht] at hl2 hw
  have key := win_iff hl2 ha hw
  have hM : ∀ j : Nat, (marksOf row b)[j]? = (posL c b (row.drop b))[j]? := fun j => by unfold marksOf; rw [hc]
  have e9 : (c :: (row.drop (b + 1)).take d) = (row.drop b).take (d + 1) := by rw [hd, List.take_succ_cons]
  have en := ends_iff (c := c) (w := row.drop b) (k := b) (j := 3) (e := d) (by (first | lia | omega))
  rw [htl, e9, List.getElem?_take_of_lt (by (first | lia | omega)), en, ← hM] at key
  refine ⟨key.trans ⟨fun h => ⟨_, h, rfl⟩, ?_⟩, ?_⟩
  · rintro ⟨m3, q1, q2⟩
    rw [q1]; congr 1; (first | lia | omega)
  · intro m2 m3 q1 q2 q3
    obtain rfl : m3 = b + d := by (first | lia | omega)
    obtain ⟨p, rfl⟩ : ∃ p, m2 = b + p := ⟨m2 - b, by have := marks_lt q1; (first | lia | omega)⟩
    rw [hM] at q1 q2
    obtain ⟨z1, z2⟩ := part_succ q1 q2
    refine ⟨by (first | lia | omega), ?_⟩
    rw [win_parts hl2 ha hw, e9, List.getElem?_map, z2, List.drop_drop]
    rw [show b + d - (b + p) - 1 = d - p - 1 by (first | lia | omega), show b + (p + 1) = b + p + 1 by (first | lia | omega)]
    rfl
theorem reply1 {row : List Nat} {b : Nat} (hr : ∀ c ∈ row, 48 ≤ c ∧ c ≤ 57) {x l : List Nat} (hx : x = [41] ∨ x = [41, 40]) (hl : l = [50, 50, 57, 32] ++ row.take b ++ x ++ row.drop b) : ¬ badCode (sOf l) ∧ badShape (sOf l) := by
  refine ⟨by rw [hl]; exact code229 _, ?_⟩
  have n40 : 40 ∉ row := fun h => by have := hr _ h; (first | lia | omega)
  have n41 : 41 ∉ row := fun h => by have := hr _ h; (first | lia | omega)
  rcases hx with rfl | rfl
  · refine shapeNo ?_
    rw [hl]
    simp only [List.mem_append, List.mem_cons, List.not_mem_nil, or_false, not_or]
    exact ⟨⟨⟨by decide, fun h => n40 (List.mem_of_mem_take h)⟩, by decide⟩, fun h => n40 (List.mem_of_mem_drop h)⟩
  · refine shapeOpen (a := [50, 50, 57, 32] ++ row.take b ++ [41]) (z := row.drop b) (by rw [hl]; simp) ?_ (fun h => n41 (List.mem_of_mem_drop h))
    simp only [List.mem_append, List.mem_cons, List.not_mem_nil, or_false, not_or]
    exact ⟨⟨by decide, fun h => n40 (List.mem_of_mem_take h)⟩, by decide⟩
end Mine

end TxtP7
section TxtL4
theorem Mine.Off.offL4 : True := by
  w_top off
  trivial
open PySem PySem.W PySem.Spec PySem.Calls PyProof.Rows
set_option Elab.async false
set_option maxRecDepth 100000
set_option maxHeartbeats 2000000
namespace Mine

theorem enterKC {prog : Program} {w : World} {A : Around} {s : Shared} {g : Heap} {hid : List (Addr × Obj)} {K : Frag}
  {R : Result → Shared → Prop} {name qual : Str} {params : Arguments} {body : List Stmt} {scope : Scope} {dV kV doc pm cdv ct oc : Value} {an od : Option Addr} {osl : Array (Option Value)} {f : Addr} {args : Args} {binds : List (Str × Value)}
  {p : Program} {loose : List Str} {mean : ExcName → Option Value} {mg mb : Str → Option Value} (S : St g hid s.heap) (X : K.In g) (T : Top p loose mean mg mb g)
    (ho : K.lookup f = some ⟨oc, od, .func (fnOf name qual params body scope dV kV doc pm an cdv ct), osl⟩) (hcd : codeIn K cdv qual = true) (hroom : A.depth < recursionLimit)
    (hbind : BindsTo s (fnOf name qual params body scope dV kV doc pm an cdv ct) args binds) (hkind : (binds.all fun y => scope.names.lookup y.1 == some .local || scope.names.lookup y.1 == some .cell) = true)
    (hnd : ((cellsFrom 0 scope.names []).map (·.1)).Nodup)
    (h : ∀ L' h₁ tk cells, Fr g L' h₁ (bindL (envOfC qual scope L' f cdv).kindOf binds fun _ => none) → News g L' h₁ (cells ++ hid) →
      CellsAre (bindC (envOfC qual scope L' f cdv).kindOf binds fun _ => none) (cellsFrom (L' + 1) scope.names []) cells → (∀ p ∈ hid, p.1 < L') → @Eq Nat s.heap.objs.size L' →
      wpC (model prog w) (A.deeper (envOfC qual scope L' f cdv)) (execs body (envOfC qual scope L' f cdv))
        (fun fl s' => R (.ok (.ret (match fl with | .ret v => v | _ => .none))) s')
        (fun e s' => wpAny (model prog w) (A.deeper (envOfC qual scope L' f cdv)) (leaving (envOfC qual scope L' f cdv) e) (fun _ s'' => R (.error e) s'') (fun e' s'' => R (.error e') s'') s')
        { s with heap := h₁, toks := tk })
    (hco : scope.isCoroutine = false) (hgen : scope.isGenerator = false) (hk : scope.kind = .function) : codeC (model prog w) A (.call (.ref f) args) R s :=
  enterCC S T.nolimit (S.keep _ _ (X _ _ ho)) rfl (codeRec_of (X.keeps S.keep) hcd) hroom hbind hkind hnd h hco hgen hk
theorem keeps9 (s : Shared) : Keeps s s := ⟨s.heap, s.toks, rfl, fun _ _ e => e⟩
theorem useFn {K : Frag} {f : Addr} {name qual : Str} {params : Arguments} {body : List Stmt} {scope : Scope} {dV kV doc pm cdv ct oc : Value} {an od : Option Addr} {osl : Array (Option Value)}
    {name2 qual2 : Str} {params2 : Arguments} {body2 : List Stmt} {scope2 : Scope} {dV2 kV2 doc2 pm2 cdv2 ct2 oc2 : Value} {an2 od2 : Option Addr} {osl2 : Array (Option Value)} {P : Str → List Stmt → Scope → Value → Prop}
    (ho : K.lookup f = some ⟨oc, od, .func (fnOf name qual params body scope dV kV doc pm an cdv ct), osl⟩) (ho2 : K.lookup f = some ⟨oc2, od2, .func (fnOf name2 qual2 params2 body2 scope2 dV2 kV2 doc2 pm2 an2 cdv2 ct2), osl2⟩)
    (h : P qual2 body2 scope2 cdv2) : P qual body scope cdv := by
  rw [ho] at ho2
  injection ho2 with e
  injection e with _ _ e _
  injection e with e
  injection e with e1 e2 e3 e4 e5 e6 e7 e8 e9 e10 e11 e12 e13
  subst e2 e5
  cases e4
  subst e13
  exact h
theorem add_so {prog : Program} {w : World} {A : Around} {E : Value → Shared → Prop} {s : Shared} {Q : Value → Shared → Prop} {x y : Str} {t u : Tok} {a b : List Nat} (hx : x = sOf a) (hy : y = sOf b) (hlen : a.length + b.length ≤ 200) (h : ∀ t' tk, Q (.str (sOf (a ++ b)) t') { s with toks := tk }) :
    wpAny (model prog w) A (binaryOp .Add (.str x t) (.str y u)) Q E s := by
  subst hx hy
  refine PyProof.Rows.add_str (fun t' tk => ?_) (by rw [sOf_length, sOf_length]; show _ ≤ 2 ^ 24; (first | lia | omega))
  rw [sOf_append]
  exact h t' tk
section
variable {prog : Program} {w : World} {A A₀ : Around} {s : Shared} {base g h₀ : Heap} {news : List (Addr × Obj)} {env : Env} {L : Addr} {m : Str → Option Value}
theorem askV (B : Below A₀ base [] h₀) (F : Fr h₀ L s.heap m) (N : News h₀ L s.heap news) (hA : A.frames = some [env]) (hf : env.frame = some L) (hke : env.scope.kind = .function) :
    ∃ g, Below A base [env] g ∧ h₀.StaysIn g ∧ (∀ p ∈ news, g.get? p.1 = some p.2) ∧ St g [] s.heap ∧ KtsDicts (([env] : List Env).filterMap (·.frame)) g ∧
      (∀ h' hid', Stw (([env] : List Env).filterMap (·.frame)) g hid' h' → Fr h₀ L h' m ∧ News h₀ L h' (hid' ++ news)) := by
  have N' : News h₀ L s.heap [] := fun p hp => nomatch hp
  obtain ⟨FG, BG, st, _⟩ := groundX (A := A) (env := env) (R := fun _ _ => True) B F N' hA hf hke
  have nL₀ : h₀.get? L = none := kts_self F
  have hfs : ([env] : List Env).filterMap (·.frame) = [L] := by simp [hf]
  rw [hfs]
  obtain ⟨oL, es, ep, hL, hLd, r⟩ := FG.ns
  have hN : ∀ p ∈ news, (hideAll s.heap (([] : List (Addr × Obj)).map (·.1))).get? p.1 = some p.2 := fun p hp => hideAll_get _ (N p hp).1 (fun h => nomatch h)
  refine ⟨hideAll s.heap (([] : List (Addr × Obj)).map (·.1)), BG, st, hN, ⟨fun b o e => of_hideAll _ e, (fun p hp => nomatch hp), Nat.le_of_eq (hideAll_size _ _)⟩, fun b hb => ?_, fun h' hid' S => ?_⟩
  · obtain rfl : b = L := by simpa using hb
    exact ⟨oL, es, ep, hL, hLd⟩
  obtain ⟨g', T', S⟩ := S
  obtain ⟨sl, hs⟩ := T'.up hL
  have nL : ∀ p ∈ hid', p.1 ≠ L ∧ h₀.get? p.1 = none := fun p hp => by
    refine ⟨fun q => ?_, ?_⟩
    · have := (S.hid p hp).2
      rw [q, hs] at this; cases this
    · cases q : h₀.get? p.1 with
      | none => rfl
      | some o =>
        obtain ⟨sl', hs'⟩ := T'.up (st _ _ q)
        have := (S.hid p hp).2
        rw [hs'] at this; cases this
  refine ⟨⟨⟨_, es, ep, S.keep _ _ hs, hLd, r⟩, fun b o e => S.keep b o (T'.other b o (st b o e) fun q => ?_), F.above⟩, fun p hp => ?_⟩
  · obtain rfl : b = L := by simpa using q
    rw [nL₀] at e; cases e
  · rcases List.mem_append.mp hp with hp | hp
    · exact ⟨(S.hid p hp).1, (nL p hp).1, (nL p hp).2⟩
    · have n := N p hp
      exact ⟨S.keep _ _ (T'.other _ _ (hN p hp) fun q => n.2.1 (by simpa using q)), n.2⟩
theorem callV {M : Model} {E : Value → Shared → Prop} {Q : Value → Shared → Prop} {fv : Value} {pos : List Value} (B : Below A base [] h₀) (F : Fr h₀ L s.heap m) (N : News h₀ L s.heap news) (hf : env.frame = some L) (hke : env.scope.kind = .function)
    (h : ∀ g, Below (A.deeper env) base [env] g → h₀.StaysIn g → (∀ p ∈ news, g.get? p.1 = some p.2) → St g [] s.heap → KtsDicts (([env] : List Env).filterMap (·.frame)) g →
      (∀ h' hid', Stw (([env] : List Env).filterMap (·.frame)) g hid' h' → Fr h₀ L h' m ∧ News h₀ L h' (hid' ++ news)) →
      codeAny M (A.deeper env) (.call fv ⟨pos, []⟩) (fun r s' => match r with | .ok (.ret v) => Q v s' | .ok _ => False | .error e => E e s') s) :
    wpAny M (A.deeper env) (call fv pos) Q E s := by
  obtain ⟨g, B2, st, hN, S, D, back⟩ := askV (A := A.deeper env) B F N (Around.frames_deeper B.stack) hf hke
  exact wpAny_call (h g B2 st hN S D back)
theorem callVC {M : Model} {E : Value → Shared → Prop} {Q : Value → Shared → Prop} {fv : Value} {pos : List Value} (B : Below A base [] h₀) (F : Fr h₀ L s.heap m) (N : News h₀ L s.heap news) (hf : env.frame = some L) (hke : env.scope.kind = .function)
    (h : ∀ g, Below (A.deeper env) base [env] g → h₀.StaysIn g → (∀ p ∈ news, g.get? p.1 = some p.2) → St g [] s.heap → KtsDicts (([env] : List Env).filterMap (·.frame)) g →
      (∀ h' hid', Stw (([env] : List Env).filterMap (·.frame)) g hid' h' → Fr h₀ L h' m ∧ News h₀ L h' (hid' ++ news)) →
      codeC M (A.deeper env) (.call fv ⟨pos, []⟩) (fun r s' => match r with | .ok (.ret v) => Q v s' | .ok _ => False | .error e => E e s') s) :
    wpC M (A.deeper env) (call fv pos) Q E s := by
  obtain ⟨g, B2, st, hN, S, D, back⟩ := askV (A := A.deeper env) B F N (Around.frames_deeper B.stack) hf hke
  exact wpC_call (h g B2 st hN S D back)
end
theorem pinned {m : Str → Option Value} {x : Str} {v : Option Value} (h : m x = v) : m = fun y => if y = x then v else m y := funext fun y => by
  by_cases e : y = x
  · rw [if_pos e, e, h]
  · rw [if_neg e]
theorem Fr.pin {g h : Heap} {L : Addr} {m : Str → Option Value} (F : Fr g L h m) {x : Str} {v : Option Value} (e : m x = v) : Fr g L h (fun y => if y = x then v else m y) := pinned e ▸ F
theorem len4 {a b c d : Nat} : [a, b, c, d].length ≤ 4 := Nat.le_refl 4
theorem len1 {a : Nat} : [a].length ≤ 1 := Nat.le_refl 1
theorem take_le {row : List Nat} {b : Nat} (h : row.length ≤ 15) : (row.take b).length ≤ 15 := by rw [List.length_take]; exact Nat.le_trans (Nat.min_le_right _ _) h
theorem drop_le {row : List Nat} {b : Nat} (h : row.length ≤ 15) : (row.drop b).length ≤ 15 := by rw [List.length_drop]; exact Nat.le_trans (Nat.sub_le _ _) h
theorem mid_le {row : List Nat} {b k : Nat} (h : row.length ≤ 15) : ((row.drop b).take k).length ≤ 15 := take_le (drop_le h)
theorem app_le {a b : List Nat} {m n : Nat} (h1 : a.length ≤ m) (h2 : b.length ≤ n) : (a ++ b).length ≤ m + n := by rw [List.length_append]; exact Nat.add_le_add h1 h2
theorem sum_le {a b : List Nat} {m n : Nat} (h1 : a.length ≤ m) (h2 : b.length ≤ n) (h : m + n ≤ 200) : a.length + b.length ≤ 200 := Nat.le_trans (Nat.add_le_add h1 h2) h
theorem mem_sw1 {α : Type} {q a b : α} {r : List α} (h : q ∈ a :: b :: r) : q ∈ b :: a :: r := by
  rcases List.mem_cons.mp h with h | h
  · exact h ▸ List.Mem.tail _ (List.Mem.head _)
  · rcases List.mem_cons.mp h with h | h
    · exact h ▸ List.Mem.head _
    · exact List.Mem.tail _ (List.Mem.tail _ h)
theorem mem_up {α : Type} {q a : α} {r r' : List α} (f : q ∈ r → q ∈ r') (h : q ∈ a :: r) : q ∈ a :: r' := by
  rcases List.mem_cons.mp h with h | h
  · exact h ▸ List.Mem.head _
  · exact List.Mem.tail _ (f h)
theorem mem_is {α : Type} {q x a : α} {l l' : List α} (f : q ∈ l → q ∈ x :: l') (h : q ∈ a :: l) : q ∈ x :: a :: l' := mem_sw1 (mem_up f h)
theorem mem_os {α : Type} {q x a : α} {l l' : List α} (f : q ∈ x :: l → q ∈ l') (h : q ∈ x :: a :: l) : q ∈ a :: l' := mem_up f (mem_sw1 h)
theorem mem_in7 {α : Type} {q x a b c d e f g : α} {r : List α} (h : q ∈ a :: b :: c :: d :: e :: f :: g :: x :: r) : q ∈ x :: a :: b :: c :: d :: e :: f :: g :: r := mem_is (mem_is (mem_is (mem_is (mem_is (mem_is mem_sw1))))) h
theorem mem_out7 {α : Type} {q x a b c d e f g : α} {r : List α} (h : q ∈ x :: a :: b :: c :: d :: e :: f :: g :: r) : q ∈ a :: b :: c :: d :: e :: f :: g :: x :: r := mem_os (mem_os (mem_os (mem_os (mem_os (mem_os mem_sw1))))) h
theorem mem_in6 {α : Type} {q x a b c d e f : α} {r : List α} (h : q ∈ a :: b :: c :: d :: e :: f :: x :: r) : q ∈ x :: a :: b :: c :: d :: e :: f :: r := mem_is (mem_is (mem_is (mem_is (mem_is mem_sw1)))) h
theorem mem_out6 {α : Type} {q x a b c d e f : α} {r : List α} (h : q ∈ x :: a :: b :: c :: d :: e :: f :: r) : q ∈ a :: b :: c :: d :: e :: f :: x :: r := mem_os (mem_os (mem_os (mem_os (mem_os mem_sw1)))) h
theorem mem_in2 {α : Type} {q x a b : α} {r : List α} (h : q ∈ a :: b :: x :: r) : q ∈ x :: a :: b :: r := mem_is mem_sw1 h
theorem mem_in3 {α : Type} {q x a b c : α} {r : List α} (h : q ∈ a :: b :: c :: x :: r) : q ∈ x :: a :: b :: c :: r := mem_is (mem_is mem_sw1) h
theorem mem_ins2 {α : Type} {q x a b : α} {r : List α} (h : q ∈ a :: b :: r) : q ∈ a :: b :: x :: r := mem_up (mem_up (List.Mem.tail _)) h
theorem mem_in22 {α : Type} {q x y a b : α} {r : List α} (h : q ∈ a :: b :: x :: y :: r) : q ∈ x :: y :: a :: b :: r := mem_up mem_in2 (mem_in2 h)
theorem mem_sw {α : Type} {q d a b m e f g k : α} {r : List α} (h : q ∈ d :: a :: b :: m :: e :: f :: g :: k :: r) : q ∈ d :: e :: f :: g :: k :: a :: b :: m :: r := mem_up (fun h => mem_up (fun h => mem_up (fun h => mem_up mem_in3 (mem_in3 h)) (mem_in3 h)) (mem_in3 h)) h
theorem mem_of7 {α : Type} {q a b c d e f g : α} {r : List α} (h : q ∈ r) : q ∈ a :: b :: c :: d :: e :: f :: g :: r := .tail _ (.tail _ (.tail _ (.tail _ (.tail _ (.tail _ (.tail _ h))))))
/-- the statements of the law's loops -/
def forBody : List Stmt → List Stmt
  | .For _ _ b _ _ :: _ => b
  | _ => []
def LawLed (L : Addr) (row : List Nat) (tr : Tok) (vb : Option Value) (others : List (Addr × Obj)) : Prop := ∃ (ob orow t0 : Obj) (c0 : Addr) (oc0 t1 : Obj) (c1 : Addr) (oc1 : Obj) (ps : Array Value),
  others = [(L + 1 + 1, ob), (L + 1, orow), (96, t0), (c0, oc0), (103, t1), (c1, oc1), (68, tabObj ps)] ∧ ob.data = .cell vb ∧ orow.data = .cell (some (.str (sOf row) tr)) ∧
  Tq 96 110 4 (Str.ofString "_int2digits.<locals>.inner") t0 c0 oc0 ∧ Tq 103 125 4 (Str.ofString "_digits2int.<locals>.inner") t1 c1 oc1 ∧ NoCode (tabObj ps)
def EndR (g : Heap) (L : Addr) (news : List (Addr × Obj)) (P : (Str → Option Value) → Prop) (s s' : Shared) : Prop := ∃ h' tk' m', s' = { s with heap := h', toks := tk' } ∧ P m' ∧ Fr g L h' m' ∧ News g L h' news
theorem isTupMk {h : Heap} {a : Addr} {items : Array Value} {n : Nat} (e : h.get? a = some { cls := .type "tuple", data := .seq items n }) : IsTup h a items := ⟨_, e, rfl, n, rfl⟩
end Mine

end TxtL4
section TxtL3
theorem Mine.Off.offL3 : True := by
  w_top off
  trivial
open PySem PySem.W PySem.Spec PySem.Calls PyProof.Rows
set_option Elab.async false
set_option maxRecDepth 100000
set_option maxHeartbeats 2000000
namespace Mine

local macro_rules | `(tactic| walk_at "callWith ref") => `(tactic| (k_here; k_dflt (refine' callWith_K ?k1 ?k2 ?_; (case k1 => k_asm); (case k2 => k_is); k_whole)))
/-- the state ahead of the loops -/
def LawAt (g : Heap) (L : Addr) (row : List Nat) (s s' : Shared) : Prop :=
  ∃ h' dr tk' tr tw vb m others, s' = { s with heap := h', drawn := dr, toks := tk' } ∧ Fr g L h' m ∧ m (Str.ofString "whole") = some (.int ((NumText.digitsVal row : Nat) : Int) tw) ∧ News g L h' others ∧ LawLed L row tr vb others
theorem lawAt_mk {g h' : Heap} {L : Addr} {row : List Nat} {s : Shared} {dr tk' tr tw vb m ob orow ps} {news : List (Addr × Obj)} (F : Fr g L h' m) (hw : m (Str.ofString "whole") = some (.int ((NumText.digitsVal row : Nat) : Int) tw)) (N : News g L h' news)
    (m1 : (L + 1 + 1, ob) ∈ news) (m2 : (L + 1, orow) ∈ news) (m3 : (96, tabObj #[]) ∈ news) (m4 : (103, tabObj #[]) ∈ news) (m5 : (68, tabObj ps) ∈ news) (hob : ob.data = .cell vb) (hor : orow.data = .cell (some (.str (sOf row) tr))) (hnc : NoCode (tabObj ps)) : LawAt g L row s { s with heap := h', drawn := dr, toks := tk' } := by
  refine ⟨h', dr, tk', tr, tw, vb, m, [(L + 1 + 1, ob), (L + 1, orow), (96, tabObj #[]), (96, tabObj #[]), (103, tabObj #[]), (103, tabObj #[]), (68, tabObj ps)], rfl, F, hw, fun q hq => N q ?_, ob, orow, tabObj #[], 96, tabObj #[], tabObj #[], 103, tabObj #[], ps, rfl, hob, hor, .inl ⟨rfl, rfl, rfl⟩, .inl ⟨rfl, rfl, rfl⟩, hnc⟩
  simp only [List.mem_cons, List.not_mem_nil, or_false] at hq
  rcases hq with rfl | rfl | rfl | rfl | rfl | rfl | rfl <;> assumption
theorem lawPre {w : World} {s : Shared} {g : Heap} {p : Program} {loose : List Str} {mean : ExcName → Option Value} {mg mb : Str → Option Value} {l : Addr} {vs : List Value} {ns : List Int} {E : Value → Shared → Prop}
    {name qual : Str} {params : Arguments} {body : List Stmt} {scope : Scope} {dV kV doc pm cdv ct oc : Value} {an od : Option Addr} {osl : Array (Option Value)}
    (X : (hd.heap_39 w.params).In g) (T : Top p loose mean mg mb g) (C1 : CodeHd g 107 103) (C2 : CodeHd g 100 96) (C3 : CodeHd g 72 68) (hl : g.IsList l vs.toArray) (hI : IntsAre vs ns) (hn : ns.length ≤ 63)
    (ho : (hd.heap_39 w.params).lookup 141 = some ⟨oc, od, .func (fnOf name qual params body scope dV kV doc pm an cdv ct), osl⟩)
    {L : Addr} {m0 : Str → Option Value} (F : Fr g L s.heap (fun y => if y = Str.ofString "script" then some (.ref l) else m0 y)) {ob orow : Obj} {vb vr : Option Value} (hob : ob.data = .cell vb) (hor : orow.data = .cell vr)
    (N : News g L s.heap [(L + 1 + 1, ob), (L + 1, orow), (103, tabObj #[]), (96, tabObj #[]), (68, tabObj #[])]) (l1 : @LT.lt Nat _ 103 L ∧ @LT.lt Nat _ 96 L ∧ @LT.lt Nat _ 68 L) :
    wpAny (model PySem.Challenge.rw_nb0217_01.row.prog w) (callerA.deeper (envOfC qual scope L 141 cdv)) (execs (body.take 4) (envOfC qual scope L 141 cdv)) (fun f s' => f = .next ∧ LawAt g L (rowOf ns) s s') E s := by
  have B := below_caller g
  revert X; k_fill; intro X
  refine' useFn (P := fun qual body scope cdv => wpAny (model PySem.Challenge.rw_nb0217_01.row.prog w) (callerA.deeper (envOfC qual scope L 141 cdv)) (execs (body.take 4) (envOfC qual scope L 141 cdv)) (fun f s' => f = .next ∧ LawAt g L (rowOf ns) s s') E s) ho ?a ?_
  (case a => k_is)
  clear ho
  dsimp only [List.take]
  repeat' (first | (k_unfold; (try dsimp only)) | ((fail_if_success with_reducible show wpAny _ _ (PySem.call (Value.ref _) _ _) _ _ _); first | walk1 | (dsimp only; walk1)))
  refine callG B F N rfl rfl [] (fun _ h => nomatch h) ?_
  intro g2 B2 st2 S2 back
  refine' c122 B2 ?X1 ?T1 S2 rfl ?d1 ?u1 ?hl hI hn ?_
  (case X1 => exact X.keeps st2)
  (case T1 => exact T.keeps st2)
  (case d1 => show 1 + 300 + 1 + 120 < 900; decide)
  (case u1 => show 4 + 3 + 1000 < 9000; decide)
  (case hl => exact stays_list st2 hl)
  intro h2 t2 tk2 S3
  obtain ⟨F3, N3⟩ := back _ _ S3
  replace N3 := N3 _ (fun q hq => ⟨hq, fun h => nomatch h⟩)
  simp only [List.nil_append] at N3
  clear back S3 S2 B2 st2 F N
  dsimp only
  repeat' (first | (k_unfold; (try dsimp only)) | ((fail_if_success with_reducible show wpAny _ _ (PySem.call (Value.ref _) _ _) _ _ _); (fail_if_success with_reducible show wpAny _ _ (pyIter _) _ _ _); first | walk1 | (dsimp only; walk1)))
  rename Fr _ _ _ _ => F9
  rename News _ _ _ _ => N9
  have hrl : (rowOf ns).length ≤ 15 := (rowOf_len ns).2
  refine srcC_signsD (pz := fun _ => true) (d := fun a => .str a) rfl F9 N9 ?_ ?_ ?_ (by rw [sOf_length]; show _ ≤ 2 ^ 24; (first | lia | omega))
  · intro C a v s2 m2 E' hv hns hx ht
    refine wpAny_pure ⟨rfl, ?_⟩
    exact keeps9 _
  · intro C a v s2 m2 E' hv hp hns hx ht
    obtain ⟨t9, rfl⟩ := ItemKind.str_is hv
    repeat' (first | (k_unfold; (try dsimp only)) | ((fail_if_success with_reducible show wpAny _ _ (PySem.call (Value.ref _) _ _) _ _ _); first | walk1 | (dsimp only; walk1)))
    · exact Carried.str _ _
    · exact keeps9 _
  intro D ys h4 tk4 F4 N4 hD hLi hNP hC
  clear F9 N9
  rw [List.filter_eq_self.mpr (fun _ _ => rfl)] at hC
  have hS := carried_strs hC
  rw [signs_sOf] at hS
  clear hC
  repeat' (first | (k_unfold; (try dsimp only)) | ((fail_if_success with_reducible show wpAny _ _ (PySem.call (Value.ref _) _ _) _ _ _); (fail_if_success with_reducible show wpAny _ _ (PySem.call (Value.builtin _) (Value.str _ _ :: _) _) _ _ _); first | walk1 | (dsimp only; walk1)))
  refine join_listW hLi (by simpa using hS) (by decide) (by rw [row_weight]; (first | lia | omega)) fun t5 k5 => ?_
  rw [join_row]
  repeat' (first | (k_unfold; (try dsimp only)) | ((fail_if_success with_reducible show wpAny _ _ (PySem.call (Value.ref _) _ _) _ _ _); (fail_if_success with_reducible show wpAny _ _ (binaryOp Operator.Add (Value.str _ _) (Value.str _ _)) _ _ _); first | walk1 | (dsimp only; walk1)))
  refine PyProof.Rows.add_str ?_ (by
    have h5 := len_intersperse 95 (rowOf ns)
    rw [sOf_length, show (Str.ofString " \n").length = 2 from by decide +kernel]
    show _ ≤ 2 ^ 24
    (first | lia | omega))
  intro t6 k6
  rw [row_end]
  repeat' (first | (k_unfold; (try dsimp only)) | ((fail_if_success with_reducible show wpAny _ _ (PySem.call (Value.ref _) _ _) _ _ _); first | walk1 | (dsimp only; walk1)))
  refine callG B F4 N4 rfl rfl (pick N4 (fun n => n.drop 4)) (fun q hq => List.mem_of_mem_drop hq) ?_
  intro g2 B2 st2 S2 back
  dsimp only [pick, List.drop] at S2 back
  refine' c80 B2 ?X1 ?T1 ?C1 S2 rfl ?d1 ?u1 (rowOf_len ns).2 (by have := (rowOf_len ns).1; (first | lia | omega)) (rowOf_dig ns) ?_
  (case X1 => exact X.keeps st2)
  (case T1 => exact T.keeps st2)
  (case C1 => exact C3.keeps st2)
  (case d1 => show 1 + 300 + 1 + 140 < 900; decide)
  (case u1 => show 4 + 3 + 1200 < 9000; decide)
  intro ps5 h5 dr5 t7 tk7 nc5 S5
  obtain ⟨F5, N5⟩ := back _ _ S5
  replace N5 := N5 (pick N4 (fun n => n.take 4)) (by
    dsimp only [pick, List.take]
    refine List.forall_mem_cons.mpr ⟨⟨by k_mem, ?_⟩, List.forall_mem_cons.mpr ⟨⟨by k_mem, ?_⟩, List.forall_mem_cons.mpr ⟨⟨by k_mem, ?_⟩, List.forall_mem_cons.mpr ⟨⟨by k_mem, ?_⟩, List.forall_mem_nil _⟩⟩⟩⟩ <;>
    · intro h
      have h9 : @Eq Nat _ 68 := List.mem_singleton.mp h
      (first | lia | omega))
  dsimp only [pick, List.take, List.cons_append, List.nil_append] at N5
  clear back S5 S2 B2 st2 F4 N4 hD hLi hNP hS
  dsimp only
  repeat' (first | (k_unfold; (try dsimp only)) | ((fail_if_success with_reducible show wpAny _ _ (PySem.call (Value.ref _) _ _) _ _ _); (fail_if_success with_reducible show wpAny _ _ (binaryOp Operator.Add (Value.str _ _) (Value.str _ _)) _ _ _); first | walk1 | (dsimp only; walk1)))
  refine add_so (a := [50, 50, 56, 32, 40]) (by decide +kernel) rfl (by simp only [List.length_cons, List.length_nil]; (first | lia | omega)) fun t8 k8 => ?_
  repeat' (first | (k_unfold; (try dsimp only)) | ((fail_if_success with_reducible show wpAny _ _ (PySem.call (Value.ref _) _ _) _ _ _); (fail_if_success with_reducible show wpAny _ _ (binaryOp Operator.Add (Value.str _ _) (Value.str _ _)) _ _ _); first | walk1 | (dsimp only; walk1)))
  refine add_so rfl (b := [41]) (by decide +kernel) (by simp only [List.length_append, List.length_cons, List.length_nil]; (first | lia | omega)) fun t10 k10 => ?_
  repeat' (first | (k_unfold; (try dsimp only)) | ((fail_if_success with_reducible show wpAny _ _ (PySem.call (Value.ref _) _ _) _ _ _); (fail_if_success with_reducible show wpAny _ _ (binaryOp Operator.Add (Value.str _ _) (Value.str _ _)) _ _ _); first | walk1 | (dsimp only; walk1)))
  rename Fr _ _ _ _ => F9
  rename News _ _ _ _ => N9
  refine callV B F9 N9 rfl rfl ?_
  intro g2 B2 st2 gN2 S2 D2 back
  refine' c129 B2 ?X1 ?T1 S2 X T D2 ?hl ?htp (hw_all _) ?hint ?r1 ?r2 ?r3
  (case X1 => exact X.keeps st2)
  (case T1 => exact T.keeps st2)
  (case hl => simp only [List.length_append, List.length_cons, List.length_nil]; (first | lia | omega))
  (case htp => exact isTupMk (gN2 _ (List.Mem.head _)))
  (case hint => exact fun nc => absurd (code228 _) nc)
  (case r2 => exact fun nc => absurd (code228 _) nc)
  (case r3 => exact fun nc => absurd (code228 _) nc)
  intro _ h6 tk6 t6' S6
  obtain ⟨F6, N6⟩ := back _ _ S6
  simp only [List.nil_append] at N6
  clear back S6 S2 B2 st2 gN2 D2 F9 N9
  dsimp only
  repeat' (first | (k_unfold; (try dsimp only)) | ((fail_if_success with_reducible show wpAny _ _ (PySem.call (Value.ref _) _ _) _ _ _); (fail_if_success with_reducible show wpAny _ _ (binaryOp Operator.Add (Value.str _ _) (Value.str _ _)) _ _ _); first | walk1 | (dsimp only; walk1)))
  refine PyProof.Rows.add_str (fun t9 k9 => ?_) (by rw [sOf_length, show (Str.ofString "another code: ").length = 14 from by decide +kernel]; simp only [List.length_append, List.length_cons, List.length_nil]; show _ ≤ 2 ^ 24; (first | lia | omega))
  dsimp only
  repeat' (first | (k_unfold; (try dsimp only)) | ((fail_if_success with_reducible show wpAny _ _ (PySem.call (Value.ref _) _ _) _ _ _); first | walk1 | (dsimp only; walk1)))
  iterate 2 (exact absurd ‹(_ != _) = true› (by rw [bne_iff_ne]; exact fun h => h rfl))
  refine' lawAt_mk F6 rfl N6 ?m1 ?m2 ?m3 ?m4 ?m5 hob ?hor nc5
  (case m1 => k_mem)
  (case m2 => k_mem)
  (case m3 => k_mem)
  (case m4 => k_mem)
  (case m5 => k_mem)
  (case hor => first | assumption | rfl)
end Mine

end TxtL3
section TxtL5
theorem Mine.Off.offL5 : True := by
  w_top off
  trivial
open PySem PySem.W PySem.Spec PySem.Calls PyProof.Rows
set_option Elab.async false
set_option maxRecDepth 100000
set_option maxHeartbeats 2000000
namespace Mine

theorem turn1 {w : World} {s : Shared} {g : Heap} {p : Program} {loose : List Str} {mean : ExcName → Option Value} {mg mb : Str → Option Value} {E : Value → Shared → Prop}
    {name qual : Str} {params : Arguments} {body : List Stmt} {scope : Scope} {dV kV doc pm cdv ct oc : Value} {an od : Option Addr} {osl : Array (Option Value)}
    (X : (hd.heap_39 w.params).In g) (T : Top p loose mean mg mb g)
    (ho : (hd.heap_39 w.params).lookup 141 = some ⟨oc, od, .func (fnOf name qual params body scope dV kV doc pm an cdv ct), osl⟩)
    {L : Addr} {m1 : Str → Option Value} {ob orow : Obj} {rest : List (Addr × Obj)} {b : Nat} {row x : List Nat} {tb tr tx : Tok} (hx : x = [41] ∨ x = [41, 40]) (hb : b ≤ row.length) (hrl : row.length ≤ 15) (hdg : ∀ c ∈ row, 48 ≤ c ∧ c ≤ 57)
    (F : Fr g L s.heap (fun y => if y = Str.ofString "wrong" then some (.str (sOf x) tx) else m1 y)) (hob : ob.data = .cell (some (.int (b : Int) tb))) (hor : orow.data = .cell (some (.str (sOf row) tr)))
    (N : News g L s.heap ((L + 1 + 1, ob) :: (L + 1, orow) :: rest)) :
    wpAny (model PySem.Challenge.rw_nb0217_01.row.prog w) (callerA.deeper (envOfC qual scope L 141 cdv)) (execs (forBody (forBody (body.drop 4))) (envOfC qual scope L 141 cdv))
      (fun f s' => f = .next ∧ EndR g L ((L + 1 + 1, ob) :: (L + 1, orow) :: rest) (fun m' => ∀ y, y ≠ Str.ofString "reply" → y ≠ Str.ofString "wrong" → m' y = m1 y) s s') E s := by
  have B := below_caller g
  revert X; k_fill; intro X
  refine' useFn (P := fun qual body scope cdv => wpAny (model PySem.Challenge.rw_nb0217_01.row.prog w) (callerA.deeper (envOfC qual scope L 141 cdv)) (execs (forBody (forBody (body.drop 4))) (envOfC qual scope L 141 cdv))
      (fun f s' => f = .next ∧ EndR g L ((L + 1 + 1, ob) :: (L + 1, orow) :: rest) (fun m' => ∀ y, y ≠ Str.ofString "reply" → y ≠ Str.ofString "wrong" → m' y = m1 y) s s') E s) ho ?a ?_
  (case a => k_is)
  clear ho
  dsimp only [List.drop, forBody]
  have hxl : x.length ≤ 2 := by rcases hx with rfl | rfl <;> decide
  have hl0 : (sOf row).length = row.length := sOf_length row
  repeat' (first | (k_unfold; (try dsimp only)) | ((fail_if_success with_reducible show wpAny _ _ (PySem.call (Value.ref _) _ _) _ _ _); (fail_if_success with_reducible show wpAny _ _ (binaryOp Operator.Add (Value.str _ _) (Value.str _ _)) _ _ _); first | walk1 | (dsimp only; walk1)))
  refine add_so (a := [50, 50, 57, 32]) (b := row.take b) (by decide +kernel) (slice_ns hb) (sum_le len4 (take_le hrl) (by decide)) fun t1 k1 => ?_
  repeat' (first | (k_unfold; (try dsimp only)) | ((fail_if_success with_reducible show wpAny _ _ (PySem.call (Value.ref _) _ _) _ _ _); (fail_if_success with_reducible show wpAny _ _ (binaryOp Operator.Add (Value.str _ _) (Value.str _ _)) _ _ _); first | walk1 | (dsimp only; walk1)))
  refine add_so rfl rfl (sum_le (app_le len4 (take_le hrl)) hxl (by decide)) fun t2 k2 => ?_
  repeat' (first | (k_unfold; (try dsimp only)) | ((fail_if_success with_reducible show wpAny _ _ (PySem.call (Value.ref _) _ _) _ _ _); (fail_if_success with_reducible show wpAny _ _ (binaryOp Operator.Add (Value.str _ _) (Value.str _ _)) _ _ _); first | walk1 | (dsimp only; walk1)))
  refine add_so rfl (b := row.drop b) (slice_sn hb) (sum_le (app_le (app_le len4 (take_le hrl)) hxl) (drop_le hrl) (by decide)) fun t3 k3 => ?_
  repeat' (first | (k_unfold; (try dsimp only)) | ((fail_if_success with_reducible show wpAny _ _ (PySem.call (Value.ref _) _ _) _ _ _); (fail_if_success with_reducible show wpAny _ _ (binaryOp Operator.Add (Value.str _ _) (Value.str _ _)) _ _ _); first | walk1 | (dsimp only; walk1)))
  rename Fr _ _ _ _ => F9
  rename News _ _ _ _ => N9
  obtain ⟨nc, ns⟩ := reply1 (b := b) hdg hx rfl
  refine callV B F9 N9 rfl rfl ?_
  intro g2 B2 st2 gN2 S2 D2 back
  refine' c129 B2 ?X1 ?T1 S2 X T D2 ?hl ?htp (hw_all _) ?hint ?r1 ?r2 ?r3
  (case X1 => exact X.keeps st2)
  (case T1 => exact T.keeps st2)
  (case hl => exact Nat.le_trans (app_le (app_le (app_le len4 (take_le hrl)) hxl) (drop_le hrl)) (by decide))
  (case htp => exact isTupMk (gN2 _ (List.Mem.head _)))
  (case hint => exact fun _ q => absurd ns q)
  (case r1 => exact fun q => absurd q nc)
  (case r3 => exact fun _ q => absurd ns q)
  intro _ _ h6 tk6 t6' S6
  obtain ⟨F6, N6⟩ := back _ _ S6
  simp only [List.nil_append] at N6
  clear back S6 S2 B2 st2 gN2 D2 F9 N9 nc ns
  dsimp only
  repeat' (first | (k_unfold; (try dsimp only)) | ((fail_if_success with_reducible show wpAny _ _ (PySem.call (Value.ref _) _ _) _ _ _); (fail_if_success with_reducible show wpAny _ _ (binaryOp Operator.Add (Value.str _ _) (Value.str _ _)) _ _ _); first | walk1 | (dsimp only; walk1)))
  refine PyProof.Rows.add_str (fun t9 k9 => ?_) (by rw [sOf_length, show (Str.ofString "another shape: ").length = 15 from by decide +kernel]; exact Nat.le_trans (Nat.add_le_add_left (app_le (app_le (app_le len4 (take_le hrl)) hxl) (drop_le hrl)) 15) (by decide))
  dsimp only
  repeat' (first | (k_unfold; (try dsimp only)) | ((fail_if_success with_reducible show wpAny _ _ (PySem.call (Value.ref _) _ _) _ _ _); (fail_if_success with_reducible show wpAny _ _ (binaryOp Operator.Add (Value.str _ _) (Value.str _ _)) _ _ _); first | walk1 | (dsimp only; walk1)))
  iterate 2 (exact absurd ‹(_ != _) = true› (by rw [bne_iff_ne]; exact fun h => h rfl))
  exact ⟨_, _, _, rfl, fun y h1 h2 => by rw [if_neg h1, if_neg h2], F6, fun q hq => N6 q (List.Mem.tail _ hq)⟩
end Mine

end TxtL5
section TxtL6
theorem Mine.Off.offL6 : True := by
  w_top off
  trivial
open PySem PySem.W PySem.Spec PySem.Calls PyProof.Rows
set_option Elab.async false
set_option maxRecDepth 100000
set_option maxHeartbeats 2000000
namespace Mine

def Hold9 (P : Prop) : Prop := P
theorem wpAny_hold9 {α : Type} {M : Model} {A : Around} {E : Value → Shared → Prop} {s : Shared} {t : Sem α} {Q : α → Shared → Prop} (h : wpAny M A t (fun a s' => Hold9 (Q a s')) E s) : wpAny M A t Q E s := h
theorem mem_rangeInts {a : Int} {b n : Nat} (h : a ∈ rangeInts (b : Int) 1 (n - b)) : ∃ k : Nat, b ≤ k ∧ k < n ∧ a = (k : Int) := by
  obtain ⟨i, hi, rfl⟩ := List.mem_map.mp h
  have := List.mem_range.mp hi
  exact ⟨b + i, by (first | lia | omega), by (first | lia | omega), by (first | lia | omega)⟩
theorem carried_ints : ∀ {ys : List Value} {l : List Int}, CarriedAll ys (l.map PyData.int) → IntsAre ys l
  | _, [], h => by cases h; exact .nil
  | _, _ :: _, h => by
    cases h with
    | cons a b =>
      cases a
      exact .cons _ _ (carried_ints b)
theorem rangeInts_nat (b n : Nat) : rangeInts (b : Int) 1 n = (List.range' b n).map fun k => ((k : Nat) : Int) := by
  unfold rangeInts
  rw [List.range'_eq_map_range, List.map_map]
  refine List.map_congr_left fun i _ => ?_
  show (b : Int) + (i : Nat) * 1 = ((b + i : Nat) : Int)
  (first | lia | omega)
def MarksAt (g : Heap) (L : Addr) (news : List (Addr × Obj)) (m1 : Str → Option Value) (row : List Nat) (b : Nat) (s s' : Shared) : Prop :=
  ∃ h' tk' M ys n, s' = { s with heap := h', toks := tk' } ∧ Fr g L h' (fun y => if y = Str.ofString "marks" then some (.ref M) else m1 y) ∧ News g L h' ((M, { cls := .type "list", data := .seq ys.toArray n }) :: news) ∧ IntsAre ys ((marksOf row b).map fun k => ((k : Nat) : Int)) ∧ (∀ q ∈ news, q.1 ≠ M)
theorem marksT {w : World} {s : Shared} {g : Heap} {p : Program} {loose : List Str} {mean : ExcName → Option Value} {mg mb : Str → Option Value} {E : Value → Shared → Prop}
    {name qual : Str} {params : Arguments} {body : List Stmt} {scope : Scope} {dV kV doc pm cdv ct oc : Value} {an od : Option Addr} {osl : Array (Option Value)}
    (X : (hd.heap_39 w.params).In g) (T : Top p loose mean mg mb g)
    (ho : (hd.heap_39 w.params).lookup 141 = some ⟨oc, od, .func (fnOf name qual params body scope dV kV doc pm an cdv ct), osl⟩)
    {L : Addr} {m1 : Str → Option Value} {ob orow : Obj} {rest : List (Addr × Obj)} {b : Nat} {row : List Nat} {tb tr : Tok} (hb : b < row.length) (hrl : row.length ≤ 15)
    (F : Fr g L s.heap m1) (hob : ob.data = .cell (some (.int (b : Int) tb))) (hor : orow.data = .cell (some (.str (sOf row) tr)))
    (N : News g L s.heap ((L + 1 + 1, ob) :: (L + 1, orow) :: rest)) :
    wpAny (model PySem.Challenge.rw_nb0217_01.row.prog w) (callerA.deeper (envOfC qual scope L 141 cdv)) (execs (((forBody (body.drop 4)).drop 1).take 1) (envOfC qual scope L 141 cdv))
      (fun f s' => f = .next ∧ MarksAt g L ((L + 1 + 1, ob) :: (L + 1, orow) :: rest) m1 row b s s') E s := by
  have B := below_caller g
  revert X; k_fill; intro X
  refine' useFn (P := fun qual body scope cdv => wpAny (model PySem.Challenge.rw_nb0217_01.row.prog w) (callerA.deeper (envOfC qual scope L 141 cdv)) (execs (((forBody (body.drop 4)).drop 1).take 1) (envOfC qual scope L 141 cdv))
      (fun f s' => f = .next ∧ MarksAt g L ((L + 1 + 1, ob) :: (L + 1, orow) :: rest) m1 row b s s') E s) ho ?a ?_
  (case a => k_is)
  clear ho
  dsimp only [List.drop, List.take, forBody]
  have hl0 : (sOf row).length = row.length := sOf_length row
  repeat' (first | (k_unfold; (try dsimp only)) | ((fail_if_success with_reducible show wpAny _ _ (PySem.call (Value.ref _) _ _) _ _ _); (fail_if_success with_reducible show wpAny _ _ (binaryOp Operator.Add (Value.str _ _) (Value.str _ _)) _ _ _); (fail_if_success with_reducible show wpAny _ _ (exec (Stmt.Assign _ (Expr.ListComp _ _ _ _) _) _) _ _ _); (fail_if_success with_reducible show wpAny _ _ (eval (Expr.ListComp _ _ _ _) _) _ _ _); first | walk1 | (dsimp only; walk1)))
  refine' Assign_ListComp_DCr (L := L) (h₀ := g) (m := m1) (pz := fun k => decide (row[k.toNat]? = row[b]?)) (d := fun k => .int k) ?hsw ?hL ?hh ?hclos ?hcell ?hkind ?hnames ?hx ?hy ?hp ?h ?hs
  (case hsw => with_unfolding_all rfl)
  (case hL => with_unfolding_all rfl)
  (case hh => with_unfolding_all rfl)
  (case hclos => with_unfolding_all rfl)
  (case hcell => decide)
  (case hkind => with_unfolding_all rfl)
  (case hnames => decide)
  (case hx => with_unfolding_all rfl)
  (case hy => with_unfolding_all rfl)
  (case hp => with_unfolding_all rfl)
  (case hs => intro _; with_unfolding_all rfl)
  refine wpAny_hold9 ?_
  repeat' (first | (k_unfold; (try dsimp only)) | ((fail_if_success with_reducible show wpAny _ _ (PySem.call (Value.ref _) _ _) _ _ _); (fail_if_success with_reducible show wpAny _ _ (binaryOp Operator.Add (Value.str _ _) (Value.str _ _)) _ _ _); (fail_if_success with_reducible show wpAny _ _ (exec (Stmt.Assign _ (Expr.ListComp _ _ _ _) _) _) _ _ _); (fail_if_success with_reducible show wpAny _ _ (eval (Expr.ListComp _ _ _ _) _) _ _ _); first | walk1 | (dsimp only; walk1)))
  unfold Hold9
  have hR := ‹IsRange _ _ _ _ _ _ _ _›
  have FF := ‹Fr g L _ m1›
  have NN := ‹News g L _ _›
  rw [hl0] at hR
  have esz : Builtin.Range.rangeSize (b : Int) (row.length : Int) 1 = ((row.length - b : Nat) : Int) := by unfold Builtin.Range.rangeSize; rw [if_pos (by decide), if_pos (by (first | lia | omega)), Int.ediv_one]; (first | lia | omega)
  refine ⟨_, _, _, _, _, _, _, _, row.length - b, rfl, hR, ?_, esz, ?_, FF, NN, ?_, ?_, ?_⟩
  · exact small_one (by (first | lia | omega)) (by (first | lia | omega)) (by (first | lia | omega)) (by (first | lia | omega))
  · show _ ≤ 2 ^ 24; (first | lia | omega)
  · intro C a v s2 m2 E' hC ha hv hns hx hk
    have c1 : s2.heap.get? (L + 1 + 1) = some ob := hk _ _ (NN _ (List.Mem.head _)).1
    have c2 : s2.heap.get? (L + 1) = some orow := hk _ _ (NN _ (List.Mem.tail _ (List.Mem.head _))).1
    obtain ⟨t9, rfl⟩ := hv
    obtain ⟨k, k1, k2, rfl⟩ := mem_rangeInts ha
    have i1 : (0 : Int) ≤ (k : Int) := by (first | lia | omega)
    have i2 : (k : Int) < ((sOf row).length : Int) := by (first | lia | omega)
    have i3 : (0 : Int) ≤ (b : Int) := by (first | lia | omega)
    have i4 : (b : Int) < ((sOf row).length : Int) := by (first | lia | omega)
    have e1 : row[k]? = some row[k] := List.getElem?_eq_getElem k2
    have e2 : row[b]? = some row[b] := List.getElem?_eq_getElem hb
    repeat' (first | (k_unfold; (try dsimp only)) | ((fail_if_success with_reducible show wpAny _ _ (PySem.call (Value.ref _) _ _) _ _ _); (fail_if_success with_reducible show wpAny _ _ (binaryOp Operator.Add (Value.str _ _) (Value.str _ _)) _ _ _); (fail_if_success with_reducible show wpAny _ _ (exec (Stmt.Assign _ (Expr.ListComp _ _ _ _) _) _) _ _ _); (fail_if_success with_reducible show wpAny _ _ (eval (Expr.ListComp _ _ _ _) _) _ _ _); first | walk1 | (dsimp only; walk1)))
    · rw [Int.toNat_natCast, item_sOf e1, item_sOf e2, e1, e2]
      by_cases q : row[k] = row[b]
      · simp [q]
      · have q2 : ((⟨#[row[k]]⟩ : Str) == ⟨#[row[b]]⟩) = false := by rw [beq_eq_false_iff_ne, Ne, Str.mk.injEq]; simpa using q
        rw [q2]; simp [q]
    · exact ⟨_, _, rfl, fun _ _ e => e⟩
  · intro C a v s2 m2 E' hC ha hv hp hns hx hk
    obtain ⟨t9, rfl⟩ := hv
    repeat' (first | (k_unfold; (try dsimp only)) | ((fail_if_success with_reducible show wpAny _ _ (PySem.call (Value.ref _) _ _) _ _ _); (fail_if_success with_reducible show wpAny _ _ (binaryOp Operator.Add (Value.str _ _) (Value.str _ _)) _ _ _); (fail_if_success with_reducible show wpAny _ _ (exec (Stmt.Assign _ (Expr.ListComp _ _ _ _) _) _) _ _ _); (fail_if_success with_reducible show wpAny _ _ (eval (Expr.ListComp _ _ _ _) _) _ _ _); first | walk1 | (dsimp only; walk1)))
    · exact Carried.int _ _
    · exact keeps9 _
  · intro D ys h4 tk4 F4 N4 hD hLi hNP hC
    repeat' (first | (k_unfold; (try dsimp only)) | ((fail_if_success with_reducible show wpAny _ _ (PySem.call (Value.ref _) _ _) _ _ _); (fail_if_success with_reducible show wpAny _ _ (binaryOp Operator.Add (Value.str _ _) (Value.str _ _)) _ _ _); (fail_if_success with_reducible show wpAny _ _ (exec (Stmt.Assign _ (Expr.ListComp _ _ _ _) _) _) _ _ _); (fail_if_success with_reducible show wpAny _ _ (eval (Expr.ListComp _ _ _ _) _) _ _ _); first | walk1 | (dsimp only; walk1)))
    have nL := hNP.ne_locals F4
    obtain ⟨⟨n9, e9⟩, h9⟩ := hNP
    refine ⟨_, _, D, ys, n9, rfl, F4, fun q hq => ?_, ?_, h9⟩
    · rcases List.mem_cons.mp hq with rfl | hq
      · exact ⟨e9, nL, hD⟩
      · exact N4 q hq
    · have hC2 := carried_ints hC
      rw [rangeInts_nat, List.filter_map] at hC2
      rw [marks_range hb]
      exact hC2
end Mine

end TxtL6
section TxtL7
theorem Mine.Off.offL7 : True := by
  w_top off
  trivial
open PySem PySem.W PySem.Spec PySem.Calls PyProof.Rows
set_option Elab.async false
set_option maxRecDepth 100000
set_option maxHeartbeats 2000000
namespace Mine

theorem lstOf {g h : Heap} {L M : Addr} {news : List (Addr × Obj)} {ys : List Value} {n : Nat} (N : News g L h news) (hm : (M, ({ cls := .type "list", data := .seq ys.toArray n } : Obj)) ∈ news) : h.IsList M ys.toArray := ⟨_, (N _ hm).1, rfl, n, rfl⟩
theorem getM {l : List Nat} {j k : Nat} (h : l[j]? = some k) : (l.map fun k => ((k : Nat) : Int)).getD j 0 = (k : Int) := by
  rw [List.getD_eq_getElem?_getD, List.getElem?_map, h]; rfl
theorem apartC {g h : Heap} {L P c0 : Addr} {news : List (Addr × Obj)} {l c : Nat} {qual : Str} {t oc0 : Obj} (N : News g L h news) (hq : Tq P l c qual t c0 oc0) (hc : (c0, oc0) ∈ news) {q : Addr × Obj} (hm : q ∈ news) (hn : NoCode q.2) (hP : q.1 ≠ P) : q.1 ≠ c0 := by
  intro e
  rcases hq with ⟨_, e1, _⟩ | ⟨_, cvs, tq, e1, e2⟩
  · exact hP (e.trans e1)
  · have h1 := (N _ hm).1
    have h2 := (N _ hc).1
    dsimp only at h2
    rw [e, h2] at h1
    have h3 := Option.some.inj h1
    exact hn cvs _ _ (h3 ▸ e1) e2
theorem noCode_cell {o : Obj} {v : Option Value} (h : o.data = .cell v) : NoCode o := fun cvs q t e => by rw [h] at e; cases e
theorem noCode_seq {o : Obj} {v : Array Value} {n : Nat} (h : o.data = .seq v n) : NoCode o := fun cvs q t e => by rw [h] at e; cases e
abbrev q96 : Str := Str.ofString "_int2digits.<locals>.inner"
abbrev q103 : Str := Str.ofString "_digits2int.<locals>.inner"
def repW (row : List Nat) (b e : Nat) : List Nat := [50, 50, 57, 32] ++ row.take b ++ [40] ++ (row.drop b).take (e - b) ++ [41] ++ row.drop e
theorem repW_len {row : List Nat} {b e : Nat} (hrl : row.length ≤ 15) : (repW row b e).length ≤ 51 := app_le (app_le (app_le (app_le (app_le len4 (take_le hrl)) len1) (mid_le hrl)) len1) (drop_le hrl)
def Due2 (row : List Nat) (b e : Nat) (tr : Tok) (due : Value) (dled : List (Addr × Obj)) : Prop :=
  ((∃ t, due = .str (Str.ofString "another shape: " ++ sOf (repW row b e)) t) ∧ dled = [] ∧ ∀ m3, (marksOf row b)[3]? = some m3 → e ≠ m3 + 1) ∨
  ((∃ t, due = .str (Str.ofString "no number") t) ∧ dled = [] ∧ ∃ m2 m3, (marksOf row b)[2]? = some m2 ∧ (marksOf row b)[3]? = some m3 ∧ e = m3 + 1 ∧ m3 ≤ m2 + 1) ∨
  (∃ D t m2 m3, due = .ref D ∧ dled = [(D, { cls := .type "tuple", data := .seq #[.str (sOf row) tr, .int ((NumText.digitsVal ((row.drop (m2 + 1)).take (m3 - m2 - 1)) : Nat) : Int) t] })] ∧ (marksOf row b)[2]? = some m2 ∧ (marksOf row b)[3]? = some m3 ∧ e = m3 + 1 ∧ m2 + 1 < m3)
def Pre2 (g : Heap) (L : Addr) (row : List Nat) (b e : Nat) (tr te : Tok) (M : Addr) (vW : Option Value) (ob orow mo : Obj) (rest : List (Addr × Obj)) (s s' : Shared) : Prop :=
  ∃ h' tk' m' due t5 dled t0 c0 oc0 t1 c1 oc1, s' = { s with heap := h', toks := tk' } ∧ m' (Str.ofString "marks") = some (.ref M) ∧ m' (Str.ofString "whole") = vW ∧
    m' (Str.ofString "due") = some due ∧ m' (Str.ofString "reply") = some (.str (sOf (repW row b e)) t5) ∧ m' (Str.ofString "end") = some (.int (e : Int) te) ∧ Fr g L h' m' ∧
    News g L h' (dled ++ (L + 1 + 1, ob) :: (L + 1, orow) :: (M, mo) :: (96, t0) :: (c0, oc0) :: (103, t1) :: (c1, oc1) :: rest) ∧ Tq 96 110 4 q96 t0 c0 oc0 ∧ Tq 103 125 4 q103 t1 c1 oc1 ∧ Due2 row b e tr due dled
theorem pre2_mk {g h' : Heap} {L M : Addr} {row : List Nat} {b e : Nat} {tr te t5 : Tok} {vW : Option Value} {ob orow mo : Obj} {rest : List (Addr × Obj)} {s : Shared} {tk' : Nat} {m' : Str → Option Value} {due : Value} (dled : List (Addr × Obj)) {t0 t1 oc0 oc1 : Obj} {c0 c1 : Addr}
    (F : Fr g L h' m') (a1 : m' (Str.ofString "marks") = some (.ref M)) (a2 : m' (Str.ofString "whole") = vW) (a3 : m' (Str.ofString "due") = some due) (a4 : m' (Str.ofString "reply") = some (.str (sOf (repW row b e)) t5)) (a5 : m' (Str.ofString "end") = some (.int (e : Int) te))
    (N : News g L h' (dled ++ (L + 1 + 1, ob) :: (L + 1, orow) :: (M, mo) :: (96, t0) :: (c0, oc0) :: (103, t1) :: (c1, oc1) :: rest)) (hq : Tq 96 110 4 q96 t0 c0 oc0) (hq1 : Tq 103 125 4 q103 t1 c1 oc1) (hD : Due2 row b e tr due dled) :
    Pre2 g L row b e tr te M vW ob orow mo rest s { s with heap := h', toks := tk' } := ⟨h', tk', m', due, t5, dled, t0, c0, oc0, t1, c1, oc1, rfl, a1, a2, a3, a4, a5, F, N, hq, hq1, hD⟩
theorem turn2pre {w : World} {s : Shared} {g : Heap} {p : Program} {loose : List Str} {mean : ExcName → Option Value} {mg mb : Str → Option Value} {E : Value → Shared → Prop}
    {name qual : Str} {params : Arguments} {body : List Stmt} {scope : Scope} {dV kV doc pm cdv ct oc : Value} {an od : Option Addr} {osl : Array (Option Value)}
    (X : (hd.heap_39 w.params).In g) (T : Top p loose mean mg mb g) (C1 : CodeHd g 107 103) (C2 : CodeHd g 100 96)
    (ho : (hd.heap_39 w.params).lookup 141 = some ⟨oc, od, .func (fnOf name qual params body scope dV kV doc pm an cdv ct), osl⟩)
    {L M : Addr} {m1 : Str → Option Value} {ob orow : Obj} {rest : List (Addr × Obj)} {b e n : Nat} {row : List Nat} {tb tr te tw : Tok} {ys : List Value} (hb : b < row.length) (h1 : b ≤ e) (h2 : e ≤ row.length) (hrl : row.length ≤ 15) (hdg : ∀ c ∈ row, 48 ≤ c ∧ c ≤ 57)
    (F : Fr g L s.heap (fun y => if y = Str.ofString "end" then some (.int (e : Int) te) else if y = Str.ofString "marks" then some (.ref M) else if y = Str.ofString "whole" then some (.int ((NumText.digitsVal row : Nat) : Int) tw) else m1 y)) (hob : ob.data = .cell (some (.int (b : Int) tb))) (hor : orow.data = .cell (some (.str (sOf row) tr)))
    (hys : IntsAre ys ((marksOf row b).map fun k => ((k : Nat) : Int)))
    {t0 t1 oc0 oc1 : Obj} {c0 c1 : Addr} (hq : Tq 96 110 4 q96 t0 c0 oc0) (hq1 : Tq 103 125 4 q103 t1 c1 oc1) (hL : @LT.lt Nat _ 103 L) (hM : M ≠ 96 ∧ M ≠ 103) (hrest : ∀ q ∈ rest, NoCode q.2 ∧ q.1 ≠ 96 ∧ q.1 ≠ 103)
    (N : News g L s.heap ((L + 1 + 1, ob) :: (L + 1, orow) :: (M, { cls := .type "list", data := .seq ys.toArray n }) :: (96, t0) :: (c0, oc0) :: (103, t1) :: (c1, oc1) :: rest)) :
    wpAny (model PySem.Challenge.rw_nb0217_01.row.prog w) (callerA.deeper (envOfC qual scope L 141 cdv)) (execs ((forBody ((forBody (body.drop 4)).drop 2)).take 3) (envOfC qual scope L 141 cdv))
      (fun f s' => f = .next ∧ Pre2 g L row b e tr te M (some (.int ((NumText.digitsVal row : Nat) : Int) tw)) ob orow { cls := .type "list", data := .seq ys.toArray n } rest s s') E s := by
  have B := below_caller g
  revert X; k_fill; intro X
  refine' useFn (P := fun qual body scope cdv => wpAny (model PySem.Challenge.rw_nb0217_01.row.prog w) (callerA.deeper (envOfC qual scope L 141 cdv)) (execs ((forBody ((forBody (body.drop 4)).drop 2)).take 3) (envOfC qual scope L 141 cdv))
      (fun f s' => f = .next ∧ Pre2 g L row b e tr te M (some (.int ((NumText.digitsVal row : Nat) : Int) tw)) ob orow { cls := .type "list", data := .seq ys.toArray n } rest s s') E s) ho ?a ?_
  (case a => k_is)
  clear ho
  dsimp only [List.drop, List.take, forBody]
  have hl0 : (sOf row).length = row.length := sOf_length row
  have A1 : ([50, 50, 57, 32] ++ row.take b).length ≤ 19 := app_le len4 (take_le hrl)
  have A2 : ([50, 50, 57, 32] ++ row.take b ++ [40]).length ≤ 20 := app_le A1 len1
  have A3 : ([50, 50, 57, 32] ++ row.take b ++ [40] ++ (row.drop b).take (e - b)).length ≤ 35 := app_le A2 (mid_le hrl)
  have A4 : ([50, 50, 57, 32] ++ row.take b ++ [40] ++ (row.drop b).take (e - b) ++ [41]).length ≤ 36 := app_le A3 len1
  repeat' (first | (k_unfold; (try dsimp only)) | ((fail_if_success with_reducible show wpAny _ _ (PySem.call (Value.ref _) _ _) _ _ _); (fail_if_success with_reducible show wpAny _ _ (binaryOp Operator.Add (Value.str _ _) (Value.str _ _)) _ _ _); first | walk1 | (dsimp only; walk1)))
  refine add_so (a := [50, 50, 57, 32]) (b := row.take b) (by decide +kernel) (slice_ns (by (first | lia | omega))) (sum_le len4 (take_le hrl) (by decide)) fun u1 k1 => ?_
  repeat' (first | (k_unfold; (try dsimp only)) | ((fail_if_success with_reducible show wpAny _ _ (PySem.call (Value.ref _) _ _) _ _ _); (fail_if_success with_reducible show wpAny _ _ (binaryOp Operator.Add (Value.str _ _) (Value.str _ _)) _ _ _); first | walk1 | (dsimp only; walk1)))
  refine add_so rfl (b := [40]) (by decide +kernel) (sum_le A1 len1 (by decide)) fun u2 k2 => ?_
  repeat' (first | (k_unfold; (try dsimp only)) | ((fail_if_success with_reducible show wpAny _ _ (PySem.call (Value.ref _) _ _) _ _ _); (fail_if_success with_reducible show wpAny _ _ (binaryOp Operator.Add (Value.str _ _) (Value.str _ _)) _ _ _); first | walk1 | (dsimp only; walk1)))
  refine add_so rfl (b := (row.drop b).take (e - b)) (slice_ss h1 h2) (sum_le A2 (mid_le hrl) (by decide)) fun u3 k3 => ?_
  repeat' (first | (k_unfold; (try dsimp only)) | ((fail_if_success with_reducible show wpAny _ _ (PySem.call (Value.ref _) _ _) _ _ _); (fail_if_success with_reducible show wpAny _ _ (binaryOp Operator.Add (Value.str _ _) (Value.str _ _)) _ _ _); first | walk1 | (dsimp only; walk1)))
  refine add_so rfl (b := [41]) (by decide +kernel) (sum_le A3 len1 (by decide)) fun u4 k4 => ?_
  repeat' (first | (k_unfold; (try dsimp only)) | ((fail_if_success with_reducible show wpAny _ _ (PySem.call (Value.ref _) _ _) _ _ _); (fail_if_success with_reducible show wpAny _ _ (binaryOp Operator.Add (Value.str _ _) (Value.str _ _)) _ _ _); first | walk1 | (dsimp only; walk1)))
  refine add_so rfl (b := row.drop e) (slice_sn h2) (sum_le A4 (drop_le hrl) (by decide)) fun u5 k5 => ?_
  have hrp : ∃ rp, rp = repW row b e ∧ rp.length ≤ 51 := ⟨_, rfl, repW_len hrl⟩
  obtain ⟨rp, hrp1, hrp2⟩ := hrp
  clear A1 A2 A3 A4
  rw [show [50, 50, 57, 32] ++ row.take b ++ [40] ++ (row.drop b).take (e - b) ++ [41] ++ row.drop e = rp from hrp1.symm]
  repeat' (first | (k_unfold; (try dsimp only)) | ((fail_if_success with_reducible show wpAny _ _ (PySem.call (Value.ref _) _ _) _ _ _); (fail_if_success with_reducible show wpAny _ _ (binaryOp Operator.Add (Value.str _ _) (Value.str _ _)) _ _ _); first | walk1 | (dsimp only; walk1)))
  refine PyProof.Rows.add_str (fun t9 k9 => ?_) (by rw [sOf_length, show (Str.ofString "another shape: ").length = 15 from by decide +kernel]; show _ ≤ 2 ^ 24; (first | lia | omega))
  dsimp only
  repeat' (first | (k_unfold; (try dsimp only)) | ((fail_if_success with_reducible show wpAny _ _ (PySem.call (Value.ref _) _ _) _ _ _); (fail_if_success with_reducible show wpAny _ _ (binaryOp Operator.Add (Value.str _ _) (Value.str _ _)) _ _ _); first | walk1 | (dsimp only; walk1)))
  have hsz : ys.toArray.size = (marksOf row b).length := by rw [List.size_toArray, hys.length, List.length_map]
  have hml : (marksOf row b).length ≤ 15 := by
    rw [marks_range hb]
    refine Nat.le_trans (List.length_filter_le _ _) ?_
    rw [List.length_range']; (first | lia | omega)
  rename News _ _ _ _ => N8
  refine PyProof.Rows.len_list (lstOf (n := n) N8 (by k_mem)) (by rw [hsz]; (first | lia | omega)) ?_
  rw [hsz]
  repeat' (first | (k_unfold; (try dsimp only)) | ((fail_if_success with_reducible show wpAny _ _ (PySem.call (Value.ref _) _ _) _ _ _); (fail_if_success with_reducible show wpAny _ _ (binaryOp Operator.Add (Value.str _ _) (Value.str _ _)) _ _ _); first | walk1 | (dsimp only; walk1)))
  all_goals subst hrp1
  · have hlt : 3 < (marksOf row b).length := by have := ‹(3 : Int) < ↑(marksOf row b).length›; (first | lia | omega)
    obtain ⟨m3, hm3⟩ : ∃ m3, (marksOf row b)[3]? = some m3 := ⟨_, List.getElem?_eq_getElem (by (first | lia | omega))⟩
    obtain ⟨m2, hm2⟩ : ∃ m2, (marksOf row b)[2]? = some m2 := ⟨_, List.getElem?_eq_getElem (by (first | lia | omega))⟩
    have g3 : (List.map (fun k => ((k : Nat) : Int)) (marksOf row b)).getD (Int.toNat 3) 0 = (m3 : Int) := getM hm3
    have g2 : (List.map (fun k => ((k : Nat) : Int)) (marksOf row b)).getD (Int.toNat 2) 0 = (m2 : Int) := getM hm2
    have a1 := ‹(e : Int) = _ + 1›
    have a2 := ‹(0 : Int) < _ - _ - 1›
    rw [g3] at a1
    rw [g3, g2] at a2
    have b3 := marks_lt hm3
    have b2 := marks_lt hm2
    rw [g3, g2, hl0, show (row.length : Int) - (m3 : Int) = ((row.length - m3 : Nat) : Int) by (first | lia | omega), show (m3 : Int) - (m2 : Int) - 1 = ((m3 - m2 - 1 : Nat) : Int) by (first | lia | omega)]
    rename Fr _ _ _ _ => F9
    rename News _ _ _ _ => N9
    have ev : ((NumText.digitsVal row : Nat) : Int) / 10 ^ (row.length - m3) % 10 ^ (m3 - m2 - 1) = ((NumText.digitsVal ((row.drop (m2 + 1)).take (m3 - m2 - 1)) : Nat) : Int) := by
      rw [← row_cut hdg (p := m2) (q := m3) (by (first | lia | omega)) (by (first | lia | omega)), Int.natCast_emod, Int.natCast_ediv, Int.natCast_pow, Int.natCast_pow]; rfl
    have hv : NumText.digitsVal row < 10 ^ 15 := Nat.lt_of_lt_of_le (digitsVal_lt row hdg) (Nat.pow_le_pow_right (by decide) hrl)
    refine callG B F9 N9 rfl rfl [(96, t0), (c0, oc0), (103, t1), (c1, oc1)] (List.forall_mem_cons.mpr ⟨by k_mem, List.forall_mem_cons.mpr ⟨by k_mem, List.forall_mem_cons.mpr ⟨by k_mem, List.forall_mem_cons.mpr ⟨by k_mem, List.forall_mem_nil _⟩⟩⟩⟩) ?_
    intro g2' B2 st2 S2 back
    refine' c136 B2 ?X1 ?T1 ?C1 ?C2 hq hq1 S2 rfl ?d1 ?u1 ?h0 ?h1 ?hk ?hj ?_
    (case X1 => exact X.keeps st2)
    (case T1 => exact T.keeps st2)
    (case C1 => exact C2.keeps st2)
    (case C2 => exact C1.keeps st2)
    (case d1 => show 1 + 300 + 1 + 120 < 900; decide)
    (case u1 => show 4 + 3 + 1000 < 9000; decide)
    (case h0 => (first | lia | omega))
    (case h1 => (first | lia | omega))
    (case hk => (first | lia | omega))
    (case hj => (first | lia | omega))
    intro t2 c2 oc2 t3 c3 oc3 h3 u9 tk3 hq2 hq3 hc2 hc3 S3
    obtain ⟨F3, N3⟩ := back _ _ S3
    have apart : ∀ q ∈ ((L + 1 + 1, ob) :: (L + 1, orow) :: (M, ({ cls := .type "list", data := .seq ys.toArray n } : Obj)) :: (96, t0) :: (c0, oc0) :: (103, t1) :: (c1, oc1) :: rest), NoCode q.2 → q.1 ≠ 96 → q.1 ≠ 103 → q.1 ∉ [(96, t0), (c0, oc0), (103, t1), (c1, oc1)].map (·.1) := by
      intro q hm hn p1 p2 hx
      simp only [List.map_cons, List.map_nil, List.mem_cons, List.not_mem_nil, or_false] at hx
      rcases hx with hx | hx | hx | hx
      · exact p1 hx
      · exact apartC N9 hq (by k_mem) hm hn p1 hx
      · exact p2 hx
      · exact apartC N9 hq1 (by k_mem) hm hn p2 hx
    replace N3 := N3 ((L + 1 + 1, ob) :: (L + 1, orow) :: (M, { cls := .type "list", data := .seq ys.toArray n }) :: rest) (by
      refine List.forall_mem_cons.mpr ⟨⟨by k_mem, apart _ (by k_mem) (noCode_cell hob) ?_ ?_⟩, List.forall_mem_cons.mpr ⟨⟨by k_mem, apart _ (by k_mem) (noCode_cell hor) ?_ ?_⟩, List.forall_mem_cons.mpr ⟨⟨by k_mem, apart _ (by k_mem) (noCode_seq rfl) hM.1 hM.2⟩, fun q hq => ?_⟩⟩⟩
      · exact (fun h => by have : @Eq Nat (L + 1 + 1) 96 := h; (first | lia | omega))
      · exact (fun h => by have : @Eq Nat (L + 1 + 1) 103 := h; (first | lia | omega))
      · exact (fun h => by have : @Eq Nat (L + 1) 96 := h; (first | lia | omega))
      · exact (fun h => by have : @Eq Nat (L + 1) 103 := h; (first | lia | omega))
      · have hq' : q ∈ ((L + 1 + 1, ob) :: (L + 1, orow) :: (M, ({ cls := .type "list", data := .seq ys.toArray n } : Obj)) :: (96, t0) :: (c0, oc0) :: (103, t1) :: (c1, oc1) :: rest) := mem_of7 hq
        exact ⟨hq', apart q hq' (hrest q hq).1 (hrest q hq).2.1 (hrest q hq).2.2⟩)
    simp only [List.cons_append, List.nil_append] at N3
    clear back S3 S2 B2 st2 F9 N9 apart
    dsimp only
    rw [ev]
    repeat' (first | (k_unfold; (try dsimp only)) | ((fail_if_success with_reducible show wpAny _ _ (PySem.call (Value.ref _) _ _) _ _ _); (fail_if_success with_reducible show wpAny _ _ (binaryOp Operator.Add (Value.str _ _) (Value.str _ _)) _ _ _); first | walk1 | (dsimp only; walk1)))
    rename Fr _ _ _ _ => F8
    rename News _ _ _ _ => N8
    refine pre2_mk [_] F8 rfl rfl rfl rfl rfl (fun q hq => N8 q ?_) hq2 hq3 (.inr (.inr ⟨_, u9, m2, m3, rfl, rfl, hm2, hm3, by (first | lia | omega), by (first | lia | omega)⟩))
    exact mem_sw hq
  · have hlt : 3 < (marksOf row b).length := by have := ‹(3 : Int) < ↑(marksOf row b).length›; (first | lia | omega)
    obtain ⟨m3, hm3⟩ : ∃ m3, (marksOf row b)[3]? = some m3 := ⟨_, List.getElem?_eq_getElem (by (first | lia | omega))⟩
    obtain ⟨m2, hm2⟩ : ∃ m2, (marksOf row b)[2]? = some m2 := ⟨_, List.getElem?_eq_getElem (by (first | lia | omega))⟩
    have g3 : (List.map (fun k => ((k : Nat) : Int)) (marksOf row b)).getD (Int.toNat 3) 0 = (m3 : Int) := getM hm3
    have g2 : (List.map (fun k => ((k : Nat) : Int)) (marksOf row b)).getD (Int.toNat 2) 0 = (m2 : Int) := getM hm2
    have a1 := ‹(e : Int) = _ + 1›
    have a2 := ‹¬ (0 : Int) < _ - _ - 1›
    rw [g3] at a1
    rw [g3, g2] at a2
    rename Fr _ _ _ _ => F8
    rename News _ _ _ _ => N8
    exact pre2_mk [] F8 rfl rfl rfl rfl rfl N8 hq hq1 (.inr (.inl ⟨⟨_, rfl⟩, rfl, m2, m3, hm2, hm3, by (first | lia | omega), by (first | lia | omega)⟩))
  · have hlt : 3 < (marksOf row b).length := by have := ‹(3 : Int) < ↑(marksOf row b).length›; (first | lia | omega)
    have a1 := ‹¬ (e : Int) = _ + 1›
    rename Fr _ _ _ _ => F8
    refine pre2_mk [] F8 rfl rfl rfl rfl rfl N8 hq hq1 (.inl ⟨⟨_, rfl⟩, rfl, fun m3 hm3 => ?_⟩)
    have g3 : (List.map (fun k => ((k : Nat) : Int)) (marksOf row b)).getD (Int.toNat 3) 0 = (m3 : Int) := getM hm3
    rw [g3] at a1
    (first | lia | omega)
  · have hlt : ¬ 3 < (marksOf row b).length := by have := ‹¬ (3 : Int) < ↑(marksOf row b).length›; (first | lia | omega)
    rename Fr _ _ _ _ => F8
    refine pre2_mk [] F8 rfl rfl rfl rfl rfl N8 hq hq1 (.inl ⟨⟨_, rfl⟩, rfl, fun m3 hm3 => ?_⟩)
    exact absurd (List.getElem?_eq_some_iff.mp hm3).1 hlt
end Mine

end TxtL7
section TxtL8
theorem Mine.Off.offL8 : True := by
  w_top off
  trivial
open PySem PySem.W PySem.Spec PySem.Calls PyProof.Rows
set_option Elab.async false
set_option maxRecDepth 100000
set_option maxHeartbeats 2000000
namespace Mine

theorem tupNe {prog : Program} {w : World} {A : Around} {E : Value → Shared → Prop} {Q : Value → Shared → Prop} {s : Shared} {q D : Addr} {x : Str} {t u t1 t2 : Tok} {v : Int} {n1 n2 : Nat} (h1 : s.heap.get? q = some { cls := .type "tuple", data := .seq #[.str x t, .int v t1] n1 })
    (h2 : s.heap.get? D = some { cls := .type "tuple", data := .seq #[.str x u, .int v t2] n2 }) (hu : A.units < cLine) (hQ : Q (.bool false) s) : wpAny (model prog w) A (compareOp .NotEq (.ref q) (.ref D)) Q E s := by
  refine EqBoolInt.of_rcne (k := false) ?_ hQ
  have := SeqAt.RcNeAt.tuples (A := A) (s := s) (e := fun _ => true) ⟨_, h1, rfl, n1, rfl⟩ ⟨_, h2, rfl, n2, rfl⟩ hu (fun j a b => ?_)
  · exact this
  · match j, a, b with
    | 0, _, _ =>
      have := SeqAt.EqAt.str_str (A := A.in1) (s := s) x t x u
      rw [beq_self_eq_true] at this; exact this
    | 1, _, _ =>
      have := SeqAt.EqAt.int_int (A := A.in1) (s := s) v t1 v t2
      rw [beq_self_eq_true] at this; exact this
theorem last2a {w : World} {s : Shared} {g : Heap} {p : Program} {loose : List Str} {mean : ExcName → Option Value} {mg mb : Str → Option Value} {E : Value → Shared → Prop}
    {name qual : Str} {params : Arguments} {body : List Stmt} {scope : Scope} {dV kV doc pm cdv ct oc : Value} {an od : Option Addr} {osl : Array (Option Value)}
    (X : (hd.heap_39 w.params).In g) (T : Top p loose mean mg mb g)
    (ho : (hd.heap_39 w.params).lookup 141 = some ⟨oc, od, .func (fnOf name qual params body scope dV kV doc pm an cdv ct), osl⟩)
    {L : Addr} {m1 : Str → Option Value} {ob orow : Obj} {rest : List (Addr × Obj)} {b e : Nat} {row : List Nat} {tb tr te t5 : Tok} (hb : b < row.length) (h1 : b ≤ e) (h2 : e ≤ row.length) (hrl : row.length ≤ 15) (hdg : ∀ c ∈ row, 48 ≤ c ∧ c ≤ 57)
    (hno : ∀ m3, (marksOf row b)[3]? = some m3 → e ≠ m3 + 1) {td : Tok}
    (F : Fr g L s.heap (fun y => if y = Str.ofString "due" then some (.str (Str.ofString "another shape: " ++ sOf (repW row b e)) td) else if y = Str.ofString "reply" then some (.str (sOf (repW row b e)) t5) else if y = Str.ofString "end" then some (.int (e : Int) te) else m1 y)) (hob : ob.data = .cell (some (.int (b : Int) tb))) (hor : orow.data = .cell (some (.str (sOf row) tr)))
    (N : News g L s.heap ((L + 1 + 1, ob) :: (L + 1, orow) :: rest)) :
    wpAny (model PySem.Challenge.rw_nb0217_01.row.prog w) (callerA.deeper (envOfC qual scope L 141 cdv)) (execs ((forBody ((forBody (body.drop 4)).drop 2)).drop 3) (envOfC qual scope L 141 cdv))
      (fun f s' => f = .next ∧ EndR g L ((L + 1 + 1, ob) :: (L + 1, orow) :: rest) (fun m' => m' (Str.ofString "marks") = m1 (Str.ofString "marks") ∧ m' (Str.ofString "whole") = m1 (Str.ofString "whole")) s s') E s := by
  have B := below_caller g
  revert X; k_fill; intro X
  refine' useFn (P := fun qual body scope cdv => wpAny (model PySem.Challenge.rw_nb0217_01.row.prog w) (callerA.deeper (envOfC qual scope L 141 cdv)) (execs ((forBody ((forBody (body.drop 4)).drop 2)).drop 3) (envOfC qual scope L 141 cdv))
      (fun f s' => f = .next ∧ EndR g L ((L + 1 + 1, ob) :: (L + 1, orow) :: rest) (fun m' => m' (Str.ofString "marks") = m1 (Str.ofString "marks") ∧ m' (Str.ofString "whole") = m1 (Str.ofString "whole")) s s') E s) ho ?a ?_
  (case a => k_is)
  clear ho
  dsimp only [List.drop, List.take, forBody]
  have hl0 : (sOf row).length = row.length := sOf_length row
  obtain ⟨nc, ns, hp⟩ := replyW hdg hb h1 h2 (l := repW row b e) rfl
  have hrp2 : (repW row b e).length ≤ 64 := Nat.le_trans (repW_len hrl) (by decide)
  have bad : badShape (sOf (repW row b e)) := by
    by_cases q : badShape (sOf (repW row b e))
    · exact q
    · obtain ⟨m3, q1, q2⟩ := ns.mp q
      exact absurd q2 (hno m3 q1)
  repeat' (first | (k_unfold; (try dsimp only)) | ((fail_if_success with_reducible show wpAny _ _ (PySem.call (Value.ref _) _ _) _ _ _); (fail_if_success with_reducible show wpAny _ _ (binaryOp Operator.Add (Value.str _ _) (Value.str _ _)) _ _ _); first | walk1 | (dsimp only; walk1)))
  rename Fr _ _ _ _ => F9
  rename News _ _ _ _ => N9
  refine callV B F9 N9 rfl rfl ?_
  intro g2 B2 st2 gN2 S2 D2 back
  refine' c129 B2 ?X1 ?T1 S2 X T D2 hrp2 ?htp (hw_all _) ?hint ?r1 ?r2 ?r3
  (case X1 => exact X.keeps st2)
  (case T1 => exact T.keeps st2)
  (case htp => exact isTupMk (gN2 _ (List.Mem.head _)))
  (case hint => exact fun _ q => absurd bad q)
  (case r1 => exact fun q => absurd q nc)
  (case r3 => exact fun _ q => absurd bad q)
  intro _ _ h6 tk6 t6' S6
  obtain ⟨F6, N6⟩ := back _ _ S6
  simp only [List.nil_append] at N6
  clear back S6 S2 B2 st2 gN2 D2 F9 N9
  dsimp only
  repeat' (first | (k_unfold; (try dsimp only)) | ((fail_if_success with_reducible show wpAny _ _ (PySem.call (Value.ref _) _ _) _ _ _); (fail_if_success with_reducible show wpAny _ _ (binaryOp Operator.Add (Value.str _ _) (Value.str _ _)) _ _ _); first | walk1 | (dsimp only; walk1)))
  iterate 2 (exact absurd ‹(_ != _) = true› (by rw [bne_iff_ne]; exact fun h => h rfl))
  refine ⟨_, _, _, rfl, ?_, F6, fun q hq => N6 q (List.Mem.tail _ hq)⟩
  exact ⟨rfl, rfl⟩
theorem last2c {w : World} {s : Shared} {g : Heap} {p : Program} {loose : List Str} {mean : ExcName → Option Value} {mg mb : Str → Option Value} {E : Value → Shared → Prop}
    {name qual : Str} {params : Arguments} {body : List Stmt} {scope : Scope} {dV kV doc pm cdv ct oc : Value} {an od : Option Addr} {osl : Array (Option Value)}
    (X : (hd.heap_39 w.params).In g) (T : Top p loose mean mg mb g)
    (ho : (hd.heap_39 w.params).lookup 141 = some ⟨oc, od, .func (fnOf name qual params body scope dV kV doc pm an cdv ct), osl⟩)
    {L : Addr} {m1 : Str → Option Value} {ob orow : Obj} {rest : List (Addr × Obj)} {b e : Nat} {row : List Nat} {tb tr te t5 : Tok} (hb : b < row.length) (h1 : b ≤ e) (h2 : e ≤ row.length) (hrl : row.length ≤ 15) (hdg : ∀ c ∈ row, 48 ≤ c ∧ c ≤ 57)
    {m2 m3 : Nat} (hm2 : (marksOf row b)[2]? = some m2) (hm3 : (marksOf row b)[3]? = some m3) (he : e = m3 + 1) (hlt : m2 + 1 < m3) {D : Addr} {td : Tok}
    (F : Fr g L s.heap (fun y => if y = Str.ofString "due" then some (.ref D) else if y = Str.ofString "reply" then some (.str (sOf (repW row b e)) t5) else if y = Str.ofString "end" then some (.int (e : Int) te) else m1 y)) (hob : ob.data = .cell (some (.int (b : Int) tb))) (hor : orow.data = .cell (some (.str (sOf row) tr)))
    (N : News g L s.heap ((D, { cls := .type "tuple", data := .seq #[.str (sOf row) tr, .int ((NumText.digitsVal ((row.drop (m2 + 1)).take (m3 - m2 - 1)) : Nat) : Int) td] }) :: (L + 1 + 1, ob) :: (L + 1, orow) :: rest)) :
    wpAny (model PySem.Challenge.rw_nb0217_01.row.prog w) (callerA.deeper (envOfC qual scope L 141 cdv)) (execs ((forBody ((forBody (body.drop 4)).drop 2)).drop 3) (envOfC qual scope L 141 cdv))
      (fun f s' => f = .next ∧ EndR g L ((L + 1 + 1, ob) :: (L + 1, orow) :: rest) (fun m' => m' (Str.ofString "marks") = m1 (Str.ofString "marks") ∧ m' (Str.ofString "whole") = m1 (Str.ofString "whole")) s s') E s := by
  have B := below_caller g
  revert X; k_fill; intro X
  refine' useFn (P := fun qual body scope cdv => wpAny (model PySem.Challenge.rw_nb0217_01.row.prog w) (callerA.deeper (envOfC qual scope L 141 cdv)) (execs ((forBody ((forBody (body.drop 4)).drop 2)).drop 3) (envOfC qual scope L 141 cdv))
      (fun f s' => f = .next ∧ EndR g L ((L + 1 + 1, ob) :: (L + 1, orow) :: rest) (fun m' => m' (Str.ofString "marks") = m1 (Str.ofString "marks") ∧ m' (Str.ofString "whole") = m1 (Str.ofString "whole")) s s') E s) ho ?a ?_
  (case a => k_is)
  clear ho
  dsimp only [List.drop, List.take, forBody]
  have hl0 : (sOf row).length = row.length := sOf_length row
  obtain ⟨nc, ns, hp⟩ := replyW hdg hb h1 h2 (l := repW row b e) rfl
  have hrp2 : (repW row b e).length ≤ 64 := Nat.le_trans (repW_len hrl) (by decide)
  have good : ¬ badShape (sOf (repW row b e)) := ns.mpr ⟨m3, hm3, he⟩
  have b3 := marks_lt hm3
  obtain ⟨_, hp3⟩ := hp m2 m3 hm2 hm3 he
  have hds : ((row.drop (m2 + 1)).take (m3 - m2 - 1)).length = m3 - m2 - 1 := by rw [List.length_take, List.length_drop]; (first | lia | omega)
  repeat' (first | (k_unfold; (try dsimp only)) | ((fail_if_success with_reducible show wpAny _ _ (PySem.call (Value.ref _) _ _) _ _ _); (fail_if_success with_reducible show wpAny _ _ (binaryOp Operator.Add (Value.str _ _) (Value.str _ _)) _ _ _); first | walk1 | (dsimp only; walk1)))
  rename Fr _ _ _ _ => F9
  rename News _ _ _ _ => N9
  refine callV B F9 N9 rfl rfl ?_
  intro g2 B2 st2 gN2 S2 D2 back
  refine' c129 B2 ?X1 ?T1 S2 X T D2 hrp2 ?htp (hw_all _) ?hint ?r1 ?r2 ?r3
  (case X1 => exact X.keeps st2)
  (case T1 => exact T.keeps st2)
  (case htp => exact isTupMk (gN2 _ (List.Mem.head _)))
  (case hint => exact fun _ _ => ⟨_, hp3, fun q => by rw [q] at hds; simp at hds; (first | lia | omega), fun d hd => hdg d (List.mem_of_mem_drop (List.mem_of_mem_take hd)), by (first | lia | omega)⟩)
  (case r1 => exact fun q => absurd q nc)
  (case r2 => exact fun _ q => absurd q good)
  intro _ _ ds hds3 h6 tk6 q6 t6' S6
  obtain rfl : ds = (row.drop (m2 + 1)).take (m3 - m2 - 1) := by
    rw [hp3] at hds3
    exact (sOf_inj.mp (Option.some.inj hds3)).symm
  obtain ⟨F6, N6⟩ := back _ _ S6
  simp only [List.cons_append, List.nil_append] at N6
  clear back S6 S2 B2 st2 gN2 D2 F9 N9
  dsimp only
  repeat' (first | (k_unfold; (try dsimp only)) | ((fail_if_success with_reducible show wpAny _ _ (PySem.call (Value.ref _) _ _) _ _ _); (fail_if_success with_reducible show wpAny _ _ (binaryOp Operator.Add (Value.str _ _) (Value.str _ _)) _ _ _); (fail_if_success with_reducible show wpAny _ _ (compareOp CmpOp.NotEq (Value.ref _) (Value.ref _)) _ _ _); first | walk1 | (dsimp only; walk1)))
  refine tupNe (N6 _ (List.Mem.head _)).1 (N6 _ (List.Mem.tail _ (List.Mem.tail _ (List.Mem.head _)))).1 (by units_room) ?_
  repeat' (first | (k_unfold; (try dsimp only)) | ((fail_if_success with_reducible show wpAny _ _ (PySem.call (Value.ref _) _ _) _ _ _); (fail_if_success with_reducible show wpAny _ _ (binaryOp Operator.Add (Value.str _ _) (Value.str _ _)) _ _ _); first | walk1 | (dsimp only; walk1)))
  refine ⟨_, _, _, rfl, ?_, F6, fun q hq => N6 q (List.Mem.tail _ (List.Mem.tail _ (List.Mem.tail _ hq)))⟩
  exact ⟨rfl, rfl⟩
theorem last2b {w : World} {s : Shared} {g : Heap} {p : Program} {loose : List Str} {mean : ExcName → Option Value} {mg mb : Str → Option Value} {E : Value → Shared → Prop}
    {name qual : Str} {params : Arguments} {body : List Stmt} {scope : Scope} {dV kV doc pm cdv ct oc : Value} {an od : Option Addr} {osl : Array (Option Value)}
    (X : (hd.heap_39 w.params).In g) (T : Top p loose mean mg mb g)
    (ho : (hd.heap_39 w.params).lookup 141 = some ⟨oc, od, .func (fnOf name qual params body scope dV kV doc pm an cdv ct), osl⟩)
    {L : Addr} {m1 : Str → Option Value} {ob orow : Obj} {rest : List (Addr × Obj)} {b e : Nat} {row : List Nat} {tb tr te t5 : Tok} (hb : b < row.length) (h1 : b ≤ e) (h2 : e ≤ row.length) (hrl : row.length ≤ 15) (hdg : ∀ c ∈ row, 48 ≤ c ∧ c ≤ 57)
    {m2 m3 : Nat} (hm2 : (marksOf row b)[2]? = some m2) (hm3 : (marksOf row b)[3]? = some m3) (he : e = m3 + 1) (hlt : m3 ≤ m2 + 1) {td : Tok}
    (F : Fr g L s.heap (fun y => if y = Str.ofString "due" then some (.str (Str.ofString "no number") td) else if y = Str.ofString "reply" then some (.str (sOf (repW row b e)) t5) else if y = Str.ofString "end" then some (.int (e : Int) te) else m1 y)) (hob : ob.data = .cell (some (.int (b : Int) tb))) (hor : orow.data = .cell (some (.str (sOf row) tr)))
    (N : News g L s.heap ((L + 1 + 1, ob) :: (L + 1, orow) :: rest)) :
    wpC (model PySem.Challenge.rw_nb0217_01.row.prog w) (callerA.deeper (envOfC qual scope L 141 cdv)) (execs ((forBody ((forBody (body.drop 4)).drop 2)).drop 3) (envOfC qual scope L 141 cdv))
      (fun f s' => f = .next ∧ EndR g L ((L + 1 + 1, ob) :: (L + 1, orow) :: rest) (fun m' => m' (Str.ofString "marks") = m1 (Str.ofString "marks") ∧ m' (Str.ofString "whole") = m1 (Str.ofString "whole")) s s') E s := by
  have B := below_caller g
  revert X; k_fill; intro X
  refine' useFn (P := fun qual body scope cdv => wpC (model PySem.Challenge.rw_nb0217_01.row.prog w) (callerA.deeper (envOfC qual scope L 141 cdv)) (execs ((forBody ((forBody (body.drop 4)).drop 2)).drop 3) (envOfC qual scope L 141 cdv))
      (fun f s' => f = .next ∧ EndR g L ((L + 1 + 1, ob) :: (L + 1, orow) :: rest) (fun m' => m' (Str.ofString "marks") = m1 (Str.ofString "marks") ∧ m' (Str.ofString "whole") = m1 (Str.ofString "whole")) s s') E s) ho ?a ?_
  (case a => k_is)
  clear ho
  dsimp only [List.drop, List.take, forBody]
  have hl0 : (sOf row).length = row.length := sOf_length row
  obtain ⟨nc, ns, hp⟩ := replyW hdg hb h1 h2 (l := repW row b e) rfl
  have hrp2 : (repW row b e).length ≤ 64 := Nat.le_trans (repW_len hrl) (by decide)
  have good : ¬ badShape (sOf (repW row b e)) := ns.mpr ⟨m3, hm3, he⟩
  obtain ⟨_, hp3⟩ := hp m2 m3 hm2 hm3 he
  rw [show m3 - m2 - 1 = 0 by (first | lia | omega), List.take_zero, show sOf [] = Str.ofString "" from by decide +kernel] at hp3
  refine wpC_execs_cons (wpC_If (wpC_isTrue_Compare1 (wpC_Call ?_)))
  k_steps
  obtain ⟨o129, fd129, ho129, hdt⟩ : ∃ o fd, (hd.heap_39 w.params).lookup 129 = some o ∧ o.data = .func fd := by
    refine' isFnK ?a
    (case a => k_is)
  refine wpC_callWith_def hdt ?_
  k_steps
  · exact ‹Fr g _ _ _›.keep _ _ (X _ _ ho129)
  clear ho129 hdt o129 fd129
  rename Fr _ _ _ _ => F9
  rename News _ _ _ _ => N9
  refine callVC B F9 N9 rfl rfl ?_
  intro g2 B2 st2 gN2 S2 D2 back
  refine' c129n B2 ?X1 ?T1 S2 X T D2 hrp2 ?htp (hw_all _) nc good hp3 ?_
  (case X1 => exact X.keeps st2)
  (case T1 => exact T.keeps st2)
  (case htp => exact isTupMk (gN2 _ (List.Mem.head _)))
  intro h6 tk6 t6' S6
  obtain ⟨F6, N6⟩ := back _ _ S6
  simp only [List.nil_append] at N6
  clear back S6 S2 B2 st2 gN2 D2 F9 N9
  dsimp only
  k_steps
  refine wpC_of (wpAny_execs_nil ?_)
  show wpC _ _ _ _ _ _
  refine wpC_of (wpAny_execs_nil ⟨rfl, ?_⟩)
  refine ⟨_, _, _, rfl, ?_, F6, fun q hq => N6 q (List.Mem.tail _ hq)⟩
  exact ⟨rfl, rfl⟩
end Mine

end TxtL8
section TxtL9
theorem Mine.Off.offL9 : True := by
  w_top off
  trivial
open PySem PySem.W PySem.Spec PySem.Calls PyProof.Rows
set_option Elab.async false
set_option maxRecDepth 100000
set_option maxHeartbeats 2000000
namespace Mine

/-- the ledger of the loops -/
abbrev led2 (L M : Addr) (ob orow mo t0 : Obj) (c0 : Addr) (oc0 t1 : Obj) (c1 : Addr) (oc1 : Obj) (rest : List (Addr × Obj)) : List (Addr × Obj) := (L + 1 + 1, ob) :: (L + 1, orow) :: (M, mo) :: (96, t0) :: (c0, oc0) :: (103, t1) :: (c1, oc1) :: rest
def End2 (g : Heap) (L M : Addr) (ob orow mo : Obj) (rest : List (Addr × Obj)) (vW : Option Value) (s s' : Shared) : Prop :=
  ∃ t0 c0 oc0 t1 c1 oc1, Tq 96 110 4 q96 t0 c0 oc0 ∧ Tq 103 125 4 q103 t1 c1 oc1 ∧ EndR g L (led2 L M ob orow mo t0 c0 oc0 t1 c1 oc1 rest) (fun m' => m' (Str.ofString "marks") = some (.ref M) ∧ m' (Str.ofString "whole") = vW) s s'
theorem EndR.trans {g : Heap} {L : Addr} {news : List (Addr × Obj)} {P : (Str → Option Value) → Prop} {s s' : Shared} {h : Heap} {tk : Nat} (x : EndR g L news P { s with heap := h, toks := tk } s') : EndR g L news P s s' := by
  obtain ⟨h', tk', m', rfl, r⟩ := x
  exact ⟨h', tk', m', rfl, r⟩
theorem pinIf {m : Str → Option Value} {x y : Str} {v u : Option Value} (hne : x ≠ y) (h : m x = v) : (if x = y then u else m x) = v := by rw [if_neg hne]; exact h
theorem turn2 {w : World} {s : Shared} {g : Heap} {p : Program} {loose : List Str} {mean : ExcName → Option Value} {mg mb : Str → Option Value} {E : Value → Shared → Prop}
    {name qual : Str} {params : Arguments} {body : List Stmt} {scope : Scope} {dV kV doc pm cdv ct oc : Value} {an od : Option Addr} {osl : Array (Option Value)}
    (X : (hd.heap_39 w.params).In g) (T : Top p loose mean mg mb g) (C1 : CodeHd g 107 103) (C2 : CodeHd g 100 96)
    (ho : (hd.heap_39 w.params).lookup 141 = some ⟨oc, od, .func (fnOf name qual params body scope dV kV doc pm an cdv ct), osl⟩)
    {L M : Addr} {m1 : Str → Option Value} {ob orow : Obj} {rest : List (Addr × Obj)} {b e n : Nat} {row : List Nat} {tb tr te tw : Tok} {ys : List Value} (hb : b < row.length) (h1 : b ≤ e) (h2 : e ≤ row.length) (hrl : row.length ≤ 15) (hdg : ∀ c ∈ row, 48 ≤ c ∧ c ≤ 57)
    (F : Fr g L s.heap (fun y => if y = Str.ofString "end" then some (.int (e : Int) te) else if y = Str.ofString "marks" then some (.ref M) else if y = Str.ofString "whole" then some (.int ((NumText.digitsVal row : Nat) : Int) tw) else m1 y)) (hob : ob.data = .cell (some (.int (b : Int) tb))) (hor : orow.data = .cell (some (.str (sOf row) tr)))
    (hys : IntsAre ys ((marksOf row b).map fun k => ((k : Nat) : Int)))
    {t0 t1 oc0 oc1 : Obj} {c0 c1 : Addr} (hq : Tq 96 110 4 q96 t0 c0 oc0) (hq1 : Tq 103 125 4 q103 t1 c1 oc1) (hL : @LT.lt Nat _ 103 L) (hM : M ≠ 96 ∧ M ≠ 103) (hrest : ∀ q ∈ rest, NoCode q.2 ∧ q.1 ≠ 96 ∧ q.1 ≠ 103)
    (N : News g L s.heap (led2 L M ob orow { cls := .type "list", data := .seq ys.toArray n } t0 c0 oc0 t1 c1 oc1 rest)) :
    wpC (model PySem.Challenge.rw_nb0217_01.row.prog w) (callerA.deeper (envOfC qual scope L 141 cdv)) (execs (forBody ((forBody (body.drop 4)).drop 2)) (envOfC qual scope L 141 cdv))
      (fun f s' => f = .next ∧ End2 g L M ob orow { cls := .type "list", data := .seq ys.toArray n } rest (some (.int ((NumText.digitsVal row : Nat) : Int) tw)) s s') E s := by
  refine wpC_execs_split 3 (wpAny_mono (turn2pre X T C1 C2 ho hb h1 h2 hrl hdg F hob hor hys hq hq1 hL hM hrest N) (fun f s' hf => ?_) fun _ _ e => e)
  obtain ⟨rfl, h', tk', m', due, t5, dled, t0', c0', oc0', t1', c1', oc1', rfl, a1, a2, a3, a4, a5, F', N', hq', hq1', hD⟩ := hf
  show wpC _ _ _ _ _ _
  have F1 := Fr.pin (Fr.pin F' a5) (x := Str.ofString "reply") (v := some (.str (sOf (repW row b e)) t5)) ((if_neg (by decide +kernel)).trans a4)
  have F2 := Fr.pin F1 (x := Str.ofString "due") (v := some due) (((if_neg (by decide +kernel)).trans (if_neg (by decide +kernel))).trans a3)
  have fin : ∀ s', EndR g L (led2 L M ob orow { cls := .type "list", data := .seq ys.toArray n } t0' c0' oc0' t1' c1' oc1' rest) (fun x => x (Str.ofString "marks") = m' (Str.ofString "marks") ∧ x (Str.ofString "whole") = m' (Str.ofString "whole")) { s with heap := h', toks := tk' } s' →
      End2 g L M ob orow { cls := .type "list", data := .seq ys.toArray n } rest (some (.int ((NumText.digitsVal row : Nat) : Int) tw)) s s' := fun s' hx => by
    rw [a1, a2] at hx
    exact ⟨_, _, _, _, _, _, hq', hq1', hx.trans⟩
  rcases hD with ⟨⟨td, rfl⟩, rfl, hno⟩ | ⟨⟨td, rfl⟩, rfl, m2, m3, hm2, hm3, he, hlt⟩ | ⟨D, td, m2, m3, rfl, rfl, hm2, hm3, he, hlt⟩
  · exact wpC_mono (wpC_of (last2a X T ho hb h1 h2 hrl hdg hno F2 hob hor N')) (fun f s' hf => ⟨hf.1, fin _ hf.2⟩) fun _ _ e => e
  · exact wpC_mono (last2b X T ho hb h1 h2 hrl hdg hm2 hm3 he hlt F2 hob hor N') (fun f s' hf => ⟨hf.1, fin _ hf.2⟩) fun _ _ e => e
  · exact wpC_mono (wpC_of (last2c X T ho hb h1 h2 hrl hdg hm2 hm3 he hlt F2 hob hor N')) (fun f s' hf => ⟨hf.1, fin _ hf.2⟩) fun _ _ e => e
end Mine

end TxtL9
section TxtLA
theorem Mine.Off.offLA : True := by
  w_top off
  trivial
open PySem PySem.W PySem.Spec PySem.Calls PyProof.Rows
set_option Elab.async false
set_option maxRecDepth 100000
set_option maxHeartbeats 2000000
namespace Mine

theorem useFnH {K : Frag} {f : Addr} {name qual : Str} {params : Arguments} {body : List Stmt} {scope : Scope} {dV kV doc pm cdv ct oc : Value} {an od : Option Addr} {osl : Array (Option Value)}
    {name2 qual2 : Str} {params2 : Arguments} {body2 : List Stmt} {scope2 : Scope} {dV2 kV2 doc2 pm2 cdv2 ct2 oc2 : Value} {an2 od2 : Option Addr} {osl2 : Array (Option Value)} {P : Str → List Stmt → Scope → Value → Prop}
    (ho : K.lookup f = some ⟨oc, od, .func (fnOf name qual params body scope dV kV doc pm an cdv ct), osl⟩) (ho2 : K.lookup f = some ⟨oc2, od2, .func (fnOf name2 qual2 params2 body2 scope2 dV2 kV2 doc2 pm2 an2 cdv2 ct2), osl2⟩)
    (h : K.lookup f = some ⟨oc2, od2, .func (fnOf name2 qual2 params2 body2 scope2 dV2 kV2 doc2 pm2 an2 cdv2 ct2), osl2⟩ → P qual2 body2 scope2 cdv2) : P qual body scope cdv := useFn ho ho2 (h ho2)
theorem noCode_rangeIter {h : Heap} {g : Heap} {L It : Addr} {o : Obj} {news : List (Addr × Obj)} {a l st : Int} (N : News g L h ((It, o) :: news)) (hi : IsRangeIter h It a l st) : NoCode o := fun cvs q t e => by
  have h1 := (N _ (List.Mem.head _)).1
  have h2 : some o = some _ := h1.symm.trans hi
  rw [Option.some.inj h2] at e
  have e4 : #[rawInt a, rawInt l, rawInt st] = cvs := by simpa using e
  rw [← e4]
  simp [rawInt]
theorem led2_apart {g h : Heap} {L M It : Addr} {o ob orow mo t0 : Obj} {c0 : Addr} {oc0 t1 : Obj} {c1 : Addr} {oc1 : Obj} {rest : List (Addr × Obj)} (N : News g L h (led2 L M ob orow mo t0 c0 oc0 t1 c1 oc1 ((It, o) :: rest)))
    (hq : Tq 96 110 4 q96 t0 c0 oc0) (hq1 : Tq 103 125 4 q103 t1 c1 oc1) (nIt : NoCode o) (h96 : It ≠ 96) (h103 : It ≠ 103) (ha : L + 1 + 1 ≠ It) (hb : L + 1 ≠ It) (hc : M ≠ It) (hr : ∀ q ∈ rest, q.1 ≠ It) : ∀ q ∈ led2 L M ob orow mo t0 c0 oc0 t1 c1 oc1 rest, q.1 ≠ It := by
  have z0 := apartC N hq (List.Mem.tail _ (List.Mem.tail _ (List.Mem.tail _ (List.Mem.tail _ (List.Mem.head _))))) (q := (It, o)) (mem_of7 (List.Mem.head _)) nIt h96
  have z1 := apartC N hq1 (List.Mem.tail _ (List.Mem.tail _ (List.Mem.tail _ (List.Mem.tail _ (List.Mem.tail _ (List.Mem.tail _ (List.Mem.head _))))))) (q := (It, o)) (mem_of7 (List.Mem.head _)) nIt h103
  unfold led2
  exact List.forall_mem_cons.mpr ⟨ha, List.forall_mem_cons.mpr ⟨hb, List.forall_mem_cons.mpr ⟨hc, List.forall_mem_cons.mpr ⟨Ne.symm h96, List.forall_mem_cons.mpr ⟨Ne.symm z0, List.forall_mem_cons.mpr ⟨Ne.symm h103, List.forall_mem_cons.mpr ⟨Ne.symm z1, hr⟩⟩⟩⟩⟩⟩⟩
theorem turn2R {w : World} {s : Shared} {g : Heap} {p : Program} {loose : List Str} {mean : ExcName → Option Value} {mg mb : Str → Option Value} {E : Value → Shared → Prop}
    {name qual : Str} {params : Arguments} {body : List Stmt} {scope : Scope} {dV kV doc pm cdv ct oc : Value} {an od : Option Addr} {osl : Array (Option Value)}
    (X : (hd.heap_39 w.params).In g) (T : Top p loose mean mg mb g) (C1 : CodeHd g 107 103) (C2 : CodeHd g 100 96)
    (ho : (hd.heap_39 w.params).lookup 141 = some ⟨oc, od, .func (fnOf name qual params body scope dV kV doc pm an cdv ct), osl⟩)
    {L M : Addr} {m1 : Str → Option Value} {ob orow : Obj} {rest : List (Addr × Obj)} {b e n : Nat} {row : List Nat} {tb tr te tw : Tok} {ys : List Value} (hb : b < row.length) (h1 : b ≤ e) (h2 : e ≤ row.length) (hrl : row.length ≤ 15) (hdg : ∀ c ∈ row, 48 ≤ c ∧ c ≤ 57)
    (F : Fr g L s.heap (fun y => if y = Str.ofString "end" then some (.int (e : Int) te) else if y = Str.ofString "marks" then some (.ref M) else if y = Str.ofString "whole" then some (.int ((NumText.digitsVal row : Nat) : Int) tw) else m1 y)) (hob : ob.data = .cell (some (.int (b : Int) tb))) (hor : orow.data = .cell (some (.str (sOf row) tr)))
    (hys : IntsAre ys ((marksOf row b).map fun k => ((k : Nat) : Int)))
    {t0 t1 oc0 oc1 : Obj} {c0 c1 : Addr} (hq : Tq 96 110 4 q96 t0 c0 oc0) (hq1 : Tq 103 125 4 q103 t1 c1 oc1) (hL : @LT.lt Nat _ 103 L) (hM : M ≠ 96 ∧ M ≠ 103) (hrest : ∀ q ∈ rest, NoCode q.2 ∧ q.1 ≠ 96 ∧ q.1 ≠ 103)
    {It : Addr} {o₁ : Obj} (nIt : NoCode o₁) (hIt : @LT.lt Nat _ L It) (hap : ∀ q ∈ led2 L M ob orow { cls := .type "list", data := .seq ys.toArray n } t0 c0 oc0 t1 c1 oc1 rest, q.1 ≠ It)
    (N : News g L s.heap ((It, o₁) :: led2 L M ob orow { cls := .type "list", data := .seq ys.toArray n } t0 c0 oc0 t1 c1 oc1 rest)) :
    wpC (model PySem.Challenge.rw_nb0217_01.row.prog w) (callerA.deeper (envOfC qual scope L 141 cdv)) (execs (forBody ((forBody (body.drop 4)).drop 2)) (envOfC qual scope L 141 cdv))
      (fun f s' => f = .next ∧ ∃ m₂ others₂ h₂ tk₂, s' = { s with heap := h₂, toks := tk₂ } ∧ (m₂ (Str.ofString "marks") = some (.ref M) ∧ m₂ (Str.ofString "whole") = some (.int ((NumText.digitsVal row : Nat) : Int) tw) ∧ ∃ t0 c0 oc0 t1 c1 oc1, others₂ = led2 L M ob orow { cls := .type "list", data := .seq ys.toArray n } t0 c0 oc0 t1 c1 oc1 rest ∧ Tq 96 110 4 q96 t0 c0 oc0 ∧ Tq 103 125 4 q103 t1 c1 oc1) ∧
        Fr g L h₂ m₂ ∧ News g L h₂ ((It, o₁) :: others₂) ∧ (∀ q ∈ others₂, q.1 ≠ It)) E s := by
  have i96 : It ≠ 96 := fun h => by have : @Eq Nat It 96 := h; (first | lia | omega)
  have i103 : It ≠ 103 := fun h => by have : @Eq Nat It 103 := h; (first | lia | omega)
  refine wpC_mono (turn2 (rest := (It, o₁) :: rest) (n := n) X T C1 C2 ho hb h1 h2 hrl hdg F hob hor hys hq hq1 hL hM (List.forall_mem_cons.mpr ⟨⟨nIt, i96, i103⟩, hrest⟩) (fun q hq => N q ?_)) (fun f s' hf => ?_) fun _ _ e => e
  · exact mem_in7 hq
  · obtain ⟨rfl, t0'', c0'', oc0'', t1'', c1'', oc1'', hq'', hq1'', h2, tk2, m2, rfl, ⟨p1, p2⟩, F3, N3⟩ := hf
    refine ⟨rfl, m2, led2 L M ob orow { cls := .type "list", data := .seq ys.toArray n } t0'' c0'' oc0'' t1'' c1'' oc1'' rest, h2, tk2, rfl, ⟨p1, p2, _, _, _, _, _, _, rfl, hq'', hq1''⟩, F3, fun q hq => N3 q ?_, ?_⟩
    · exact mem_out7 hq
    · exact led2_apart N3 hq'' hq1'' nIt i96 i103 (hap _ (List.Mem.head _)) (hap _ (List.Mem.tail _ (List.Mem.head _))) (hap _ (List.Mem.tail _ (List.Mem.tail _ (List.Mem.head _)))) (fun q hq => hap q (mem_of7 hq))
theorem forEnd {w : World} {s : Shared} {g : Heap} {p : Program} {loose : List Str} {mean : ExcName → Option Value} {mg mb : Str → Option Value} {E : Value → Shared → Prop}
    {name qual : Str} {params : Arguments} {body : List Stmt} {scope : Scope} {dV kV doc pm cdv ct oc : Value} {an od : Option Addr} {osl : Array (Option Value)}
    (X : (hd.heap_39 w.params).In g) (T : Top p loose mean mg mb g) (C1 : CodeHd g 107 103) (C2 : CodeHd g 100 96)
    (ho : (hd.heap_39 w.params).lookup 141 = some ⟨oc, od, .func (fnOf name qual params body scope dV kV doc pm an cdv ct), osl⟩)
    {L M : Addr} {m : Str → Option Value} {ob orow : Obj} {rest : List (Addr × Obj)} {b n : Nat} {row : List Nat} {tb tr tw : Tok} {ys : List Value} (hb : b < row.length) (hrl : row.length ≤ 15) (hdg : ∀ c ∈ row, 48 ≤ c ∧ c ≤ 57)
    (F : Fr g L s.heap m) (hmk : m (Str.ofString "marks") = some (.ref M)) (hwh : m (Str.ofString "whole") = some (.int ((NumText.digitsVal row : Nat) : Int) tw)) (hob : ob.data = .cell (some (.int (b : Int) tb))) (hor : orow.data = .cell (some (.str (sOf row) tr)))
    (hys : IntsAre ys ((marksOf row b).map fun k => ((k : Nat) : Int)))
    {t0 t1 oc0 oc1 : Obj} {c0 c1 : Addr} (hq : Tq 96 110 4 q96 t0 c0 oc0) (hq1 : Tq 103 125 4 q103 t1 c1 oc1) (hL : @LT.lt Nat _ 103 L) (hM : M ≠ 96 ∧ M ≠ 103) (hrest : ∀ q ∈ rest, NoCode q.2 ∧ q.1 ≠ 96 ∧ q.1 ≠ 103)
    (N : News g L s.heap (led2 L M ob orow { cls := .type "list", data := .seq ys.toArray n } t0 c0 oc0 t1 c1 oc1 rest)) :
    wpC (model PySem.Challenge.rw_nb0217_01.row.prog w) (callerA.deeper (envOfC qual scope L 141 cdv)) (execs ((forBody (body.drop 4)).drop 2) (envOfC qual scope L 141 cdv))
      (fun f s' => f = .next ∧ End2 g L M ob orow { cls := .type "list", data := .seq ys.toArray n } rest (some (.int ((NumText.digitsVal row : Nat) : Int) tw)) s s') E s := by
  have B := below_caller g
  revert X; k_fill; intro X
  refine' useFnH (P := fun qual body scope cdv => wpC (model PySem.Challenge.rw_nb0217_01.row.prog w) (callerA.deeper (envOfC qual scope L 141 cdv)) (execs ((forBody (body.drop 4)).drop 2) (envOfC qual scope L 141 cdv))
      (fun f s' => f = .next ∧ End2 g L M ob orow { cls := .type "list", data := .seq ys.toArray n } rest (some (.int ((NumText.digitsVal row : Nat) : Int) tw)) s s') E s) ho ?a ?_
  (case a => k_is)
  clear ho
  intro ho2
  dsimp only [List.drop, List.take, forBody]
  have hl0 : (sOf row).length = row.length := sOf_length row
  refine wpC_execs_cons (wpC_For ?_)
  repeat' (first | (k_unfold; (try dsimp only)) | ((fail_if_success with_reducible show wpAny _ _ (PySem.call (Value.ref _) _ _) _ _ _); (fail_if_success with_reducible show wpAny _ _ (binaryOp Operator.Add (Value.str _ _) (Value.str _ _)) _ _ _); (fail_if_success with_reducible show wpAny _ _ (pyIter _) _ _ _); first | walk1 | (dsimp only; walk1)))
  have hR := ‹IsRange _ _ _ _ _ _ _ _›
  have FF := ‹Fr g L _ m›
  have NN := ‹News g L _ _›
  rw [hl0] at hR
  have esz : Builtin.Range.rangeSize (b : Int) ((row.length : Int) + 1) 1 = ((row.length + 1 - b : Nat) : Int) := by unfold Builtin.Range.rangeSize; rw [if_pos (by decide), if_pos (by (first | lia | omega)), Int.ediv_one]; (first | lia | omega)
  refine wpAny_pyIter_range hR (small_one (by (first | lia | omega)) (by (first | lia | omega)) (by (first | lia | omega)) (by (first | lia | omega))) ?_
  rw [esz]
  have N2 := News.push FF NN { cls := .type "range_iterator", data := .fields #[rawInt (b : Int), rawInt ((row.length + 1 - b : Nat) : Int), rawInt 1] }
  have F2 := FF.push { cls := .type "range_iterator", data := .fields #[rawInt (b : Int), rawInt ((row.length + 1 - b : Nat) : Int), rawInt 1] }
  have hlt := ltSize NN
  have hIL : @LT.lt Nat _ L _ := FF.ns.lt
  refine loopR rfl (b : Int) (row.length + 1 - b) (fun _ m₁ others₁ => m₁ (Str.ofString "marks") = some (.ref M) ∧ m₁ (Str.ofString "whole") = some (.int ((NumText.digitsVal row : Nat) : Int) tw) ∧ ∃ t0 c0 oc0 t1 c1 oc1, others₁ = led2 L M ob orow { cls := .type "list", data := .seq ys.toArray n } t0 c0 oc0 t1 c1 oc1 rest ∧ Tq 96 110 4 q96 t0 c0 oc0 ∧ Tq 103 125 4 q103 t1 c1 oc1)
    ⟨hmk, hwh, _, _, _, _, _, _, rfl, hq, hq1⟩ F2 N2 (Heap.get?_push_size _ rfl) (fun q hq => Nat.ne_of_lt (hlt q hq)) ?_ ?_
  · rintro i m₁ others₁ o₁ h₁ tk₁ t hi ⟨j1, j2, t0', c0', oc0', t1', c1', oc1', rfl, hq', hq1'⟩ F₁ N₁ hR₁ hap₁
    have F₂ := Fr.pin (Fr.pin F₁ j2) (x := Str.ofString "marks") (v := some (.ref M)) ((if_neg (by decide +kernel)).trans j1)
    have nIt := noCode_rangeIter N₁ hR₁
    clear F₁ F2 N2 NN FF
    rw [show (b : Int) + (i : Nat) = ((b + i : Nat) : Int) by (first | lia | omega)]
    repeat' (first | (k_unfold; (try dsimp only)) | ((fail_if_success with_reducible show wpAny _ _ (PySem.call (Value.ref _) _ _) _ _ _); (fail_if_success with_reducible show wpAny _ _ (binaryOp Operator.Add (Value.str _ _) (Value.str _ _)) _ _ _); first | walk1 | (dsimp only; walk1)))
    show wpC _ _ _ _ _ _
    rename Fr _ _ _ _ => F9
    rename News _ _ _ _ => N9
    exact turn2R (e := b + i) X T C1 C2 ho2 hb (by (first | lia | omega)) (by (first | lia | omega)) hrl hdg F9 hob hor hys hq' hq1' hL hM hrest nIt hIL hap₁ N9
  · rintro m₁ others₁ h₁ tk₁ ⟨j1, j2, t0', c0', oc0', t1', c1', oc1', rfl, hq', hq1'⟩ F₁ N₁
    show wpC _ _ _ _ _ _
    exact wpC_of (wpAny_execs_nil ⟨rfl, _, _, _, _, _, _, hq', hq1', _, _, m₁, rfl, ⟨j1, j2⟩, F₁, N₁⟩)
end Mine

end TxtLA
section TxtLB
theorem Mine.Off.offLB : True := by
  w_top off
  trivial
open PySem PySem.W PySem.Spec PySem.Calls PyProof.Rows
set_option Elab.async false
set_option maxRecDepth 100000
set_option maxHeartbeats 2000000
namespace Mine

theorem turn1L {w : World} {s : Shared} {g : Heap} {p : Program} {loose : List Str} {mean : ExcName → Option Value} {mg mb : Str → Option Value} {E : Value → Shared → Prop}
    {name qual : Str} {params : Arguments} {body : List Stmt} {scope : Scope} {dV kV doc pm cdv ct oc : Value} {an od : Option Addr} {osl : Array (Option Value)}
    (X : (hd.heap_39 w.params).In g) (T : Top p loose mean mg mb g)
    (ho : (hd.heap_39 w.params).lookup 141 = some ⟨oc, od, .func (fnOf name qual params body scope dV kV doc pm an cdv ct), osl⟩)
    {L : Addr} {m1 : Str → Option Value} {ob orow : Obj} {rest : List (Addr × Obj)} {b : Nat} {row : List Nat} {tb tr : Tok} (hb : b ≤ row.length) (hrl : row.length ≤ 15) (hdg : ∀ c ∈ row, 48 ≤ c ∧ c ≤ 57) {v : Value} (hv : ∃ x tx, v = .str (sOf x) tx ∧ (x = [41] ∨ x = [41, 40])) {vW : Option Value} (hW : m1 (Str.ofString "whole") = vW)
    (F : Fr g L s.heap (fun y => if y = Str.ofString "wrong" then some v else m1 y)) (hob : ob.data = .cell (some (.int (b : Int) tb))) (hor : orow.data = .cell (some (.str (sOf row) tr)))
    {It Li : Addr} {o₁ lo : Obj} (hap : ∀ q ∈ (L + 1 + 1, ob) :: (L + 1, orow) :: rest, q.1 ≠ It) (N : News g L s.heap ((It, o₁) :: (Li, lo) :: (L + 1 + 1, ob) :: (L + 1, orow) :: rest)) :
    wpC (model PySem.Challenge.rw_nb0217_01.row.prog w) (callerA.deeper (envOfC qual scope L 141 cdv)) (execs (forBody (forBody (body.drop 4))) (envOfC qual scope L 141 cdv))
      (fun f s' => f = .next ∧ ∃ m₂ others₂ h₂ tk₂, s' = { s with heap := h₂, toks := tk₂ } ∧ (m₂ (Str.ofString "whole") = vW ∧ others₂ = (L + 1 + 1, ob) :: (L + 1, orow) :: rest) ∧ Fr g L h₂ m₂ ∧ News g L h₂ ((It, o₁) :: (Li, lo) :: others₂) ∧ (∀ q ∈ others₂, q.1 ≠ It)) E s := by
  obtain ⟨x, tx, rfl, hx⟩ := hv
  refine wpC_mono (wpC_of (turn1 (rest := (It, o₁) :: (Li, lo) :: rest) X T ho hx hb hrl hdg F hob hor (fun q hq => N q ?_))) (fun f s' hf => ?_) fun _ _ e => e
  · exact mem_in22 hq
  · obtain ⟨rfl, h2, tk2, m2, rfl, p1, F3, N3⟩ := hf
    refine ⟨rfl, m2, _, h2, tk2, rfl, ⟨?_, rfl⟩, F3, fun q hq => N3 q ?_, hap⟩
    · rw [p1 _ (by decide +kernel) (by decide +kernel)]; exact hW
    · exact mem_in22 hq
theorem strVal {v : Value} {s : Str} {x : List Nat} {t : Tok} (h : s = sOf x) (e : some (Value.str s t) = some v) : v = .str (sOf x) t := by
  rw [← h]; exact (Option.some.inj e).symm
theorem forWrong {w : World} {s : Shared} {g : Heap} {p : Program} {loose : List Str} {mean : ExcName → Option Value} {mg mb : Str → Option Value} {E : Value → Shared → Prop}
    {name qual : Str} {params : Arguments} {body : List Stmt} {scope : Scope} {dV kV doc pm cdv ct oc : Value} {an od : Option Addr} {osl : Array (Option Value)}
    (X : (hd.heap_39 w.params).In g) (T : Top p loose mean mg mb g)
    (ho : (hd.heap_39 w.params).lookup 141 = some ⟨oc, od, .func (fnOf name qual params body scope dV kV doc pm an cdv ct), osl⟩)
    {L : Addr} {m1 : Str → Option Value} {ob orow : Obj} {rest : List (Addr × Obj)} {b : Nat} {row : List Nat} {tb tr : Tok} (hb : b ≤ row.length) (hrl : row.length ≤ 15) (hdg : ∀ c ∈ row, 48 ≤ c ∧ c ≤ 57) {vW : Option Value} (hW : m1 (Str.ofString "whole") = vW)
    (F : Fr g L s.heap m1) (hob : ob.data = .cell (some (.int (b : Int) tb))) (hor : orow.data = .cell (some (.str (sOf row) tr)))
    (N : News g L s.heap ((L + 1 + 1, ob) :: (L + 1, orow) :: rest)) :
    wpC (model PySem.Challenge.rw_nb0217_01.row.prog w) (callerA.deeper (envOfC qual scope L 141 cdv)) (execs ((forBody (body.drop 4)).take 1) (envOfC qual scope L 141 cdv))
      (fun f s' => f = .next ∧ EndR g L ((L + 1 + 1, ob) :: (L + 1, orow) :: rest) (fun m' => m' (Str.ofString "whole") = vW) s s') E s := by
  have B := below_caller g
  revert X; k_fill; intro X
  refine' useFnH (P := fun qual body scope cdv => wpC (model PySem.Challenge.rw_nb0217_01.row.prog w) (callerA.deeper (envOfC qual scope L 141 cdv)) (execs ((forBody (body.drop 4)).take 1) (envOfC qual scope L 141 cdv))
      (fun f s' => f = .next ∧ EndR g L ((L + 1 + 1, ob) :: (L + 1, orow) :: rest) (fun m' => m' (Str.ofString "whole") = vW) s s') E s) ho ?a ?_
  (case a => k_is)
  clear ho
  intro ho2
  dsimp only [List.drop, List.take, forBody]
  refine wpC_execs_cons (wpC_For ?_)
  repeat' (first | (k_unfold; (try dsimp only)) | ((fail_if_success with_reducible show wpAny _ _ (PySem.call (Value.ref _) _ _) _ _ _); (fail_if_success with_reducible show wpAny _ _ (binaryOp Operator.Add (Value.str _ _) (Value.str _ _)) _ _ _); (fail_if_success with_reducible show wpAny _ _ (pyIter _) _ _ _); first | walk1 | (dsimp only; walk1)))
  rename Addr => Li
  rename Fr _ _ _ _ => FF
  rename News _ _ _ _ => NN
  refine wpAny_pyIter_list ⟨_, (NN _ (List.Mem.head _)).1, rfl, 0, rfl⟩ ?_
  have N2 := News.push FF NN { cls := .type "list_iterator", data := .fields #[.ref Li, .int 0 0] }
  have F2 := FF.push { cls := .type "list_iterator", data := .fields #[.ref Li, .int 0 0] }
  have hlt := ltSize NN
  refine loopL rfl _ rfl rfl (fun _ m₁ others₁ => m₁ (Str.ofString "whole") = vW ∧ others₁ = (L + 1 + 1, ob) :: (L + 1, orow) :: rest) ⟨hW, rfl⟩ F2 N2 rfl rfl (Nat.ne_of_lt (hlt _ (List.Mem.head _))) (fun q hq => Nat.ne_of_lt (hlt q (List.Mem.tail _ hq))) ?_ ?_
  · rintro i m₁ others₁ o₁ h₁ tk₁ v hv ⟨j1, rfl⟩ F₁ N₁ hap₁
    have hv2 : ∃ x tx, v = .str (sOf x) tx ∧ (x = [41] ∨ x = [41, 40]) := by
      match i, hv with
      | 0, hv => exact ⟨[41], _, strVal (s := Str.ofString ")") (by decide +kernel) hv, .inl rfl⟩
      | 1, hv => exact ⟨[41, 40], _, strVal (s := Str.ofString ")(") (by decide +kernel) hv, .inr rfl⟩
      | n + 2, hv => exact absurd hv (by simp)
    clear F2 N2 NN FF
    repeat' (first | (k_unfold; (try dsimp only)) | ((fail_if_success with_reducible show wpAny _ _ (PySem.call (Value.ref _) _ _) _ _ _); (fail_if_success with_reducible show wpAny _ _ (binaryOp Operator.Add (Value.str _ _) (Value.str _ _)) _ _ _); first | walk1 | (dsimp only; walk1)))
    show wpC _ _ _ _ _ _
    rename Fr _ _ _ _ => F9
    rename News _ _ _ _ => N9
    exact turn1L X T ho2 hb hrl hdg hv2 j1 F9 hob hor hap₁ N9
  · rintro m₁ others₁ h₁ tk₁ ⟨j1, rfl⟩ F₁ N₁
    show wpC _ _ _ _ _ _
    exact wpC_of (wpAny_execs_nil ⟨rfl, _, _, m₁, rfl, j1, F₁, N₁⟩)
end Mine

end TxtLB
section TxtLC
theorem Mine.Off.offLC : True := by
  w_top off
  trivial
open PySem PySem.W PySem.Spec PySem.Calls PyProof.Rows
set_option Elab.async false
set_option maxRecDepth 100000
set_option maxHeartbeats 2000000
namespace Mine

theorem wpC_execs_splitC {M : Model} {A : Around} {E : Value → Shared → Prop} {s : Shared} {env : Env} (n : Nat) {l : List Stmt} {Q : Flow → Shared → Prop} (h : wpC M A (execs (l.take n) env) (fun f s' => match f with | .next => wpC M A (execs (l.drop n) env) Q E s' | f => Q f s') E s) :
    wpC M A (execs l env) Q E s := by
  rw [execs_split n l]
  refine wpC_bind (wpC_mono h (fun f s' h' => ?_) fun _ _ h' => h')
  cases f <;> first | exact h' | exact wpC_pure h'
abbrev led0 (L : Addr) (ob orow t0 : Obj) (c0 : Addr) (oc0 t1 : Obj) (c1 : Addr) (oc1 : Obj) (rest : List (Addr × Obj)) : List (Addr × Obj) := (L + 1 + 1, ob) :: (L + 1, orow) :: (96, t0) :: (c0, oc0) :: (103, t1) :: (c1, oc1) :: rest
def End0 (g : Heap) (L : Addr) (ob orow : Obj) (rest : List (Addr × Obj)) (vW : Option Value) (s s' : Shared) : Prop :=
  ∃ t0 c0 oc0 t1 c1 oc1, Tq 96 110 4 q96 t0 c0 oc0 ∧ Tq 103 125 4 q103 t1 c1 oc1 ∧ EndR g L (led0 L ob orow t0 c0 oc0 t1 c1 oc1 rest) (fun m' => m' (Str.ofString "whole") = vW) s s'
theorem turn0 {w : World} {s : Shared} {g : Heap} {p : Program} {loose : List Str} {mean : ExcName → Option Value} {mg mb : Str → Option Value} {E : Value → Shared → Prop}
    {name qual : Str} {params : Arguments} {body : List Stmt} {scope : Scope} {dV kV doc pm cdv ct oc : Value} {an od : Option Addr} {osl : Array (Option Value)}
    (X : (hd.heap_39 w.params).In g) (T : Top p loose mean mg mb g) (C1 : CodeHd g 107 103) (C2 : CodeHd g 100 96)
    (ho : (hd.heap_39 w.params).lookup 141 = some ⟨oc, od, .func (fnOf name qual params body scope dV kV doc pm an cdv ct), osl⟩)
    {L : Addr} {m : Str → Option Value} {ob orow : Obj} {rest : List (Addr × Obj)} {b : Nat} {row : List Nat} {tb tr tw : Tok} (hb : b < row.length) (hrl : row.length ≤ 15) (hdg : ∀ c ∈ row, 48 ≤ c ∧ c ≤ 57)
    (F : Fr g L s.heap m) (hwh : m (Str.ofString "whole") = some (.int ((NumText.digitsVal row : Nat) : Int) tw)) (hob : ob.data = .cell (some (.int (b : Int) tb))) (hor : orow.data = .cell (some (.str (sOf row) tr)))
    {t0 t1 oc0 oc1 : Obj} {c0 c1 : Addr} (hq : Tq 96 110 4 q96 t0 c0 oc0) (hq1 : Tq 103 125 4 q103 t1 c1 oc1) (hL : @LT.lt Nat _ 103 L) (hrest : ∀ q ∈ rest, NoCode q.2 ∧ q.1 ≠ 96 ∧ q.1 ≠ 103)
    (N : News g L s.heap (led0 L ob orow t0 c0 oc0 t1 c1 oc1 rest)) :
    wpC (model PySem.Challenge.rw_nb0217_01.row.prog w) (callerA.deeper (envOfC qual scope L 141 cdv)) (execs (forBody (body.drop 4)) (envOfC qual scope L 141 cdv))
      (fun f s' => f = .next ∧ End0 g L ob orow rest (some (.int ((NumText.digitsVal row : Nat) : Int) tw)) s s') E s := by
  refine wpC_execs_splitC 1 (wpC_mono (forWrong X T ho (by (first | lia | omega)) hrl hdg hwh F hob hor N) (fun f s' hf => ?_) fun _ _ e => e)
  obtain ⟨rfl, h1, tk1, m1, rfl, w1, F1, N1⟩ := hf
  show wpC _ _ _ _ _ _
  refine wpC_execs_split 1 (wpAny_mono (marksT X T ho hb hrl F1 hob hor N1) (fun f s' hf => ?_) fun _ _ e => e)
  obtain ⟨rfl, h2, tk2, M, ys, n, rfl, F2, N2, hys, hM⟩ := hf
  show wpC _ _ _ _ _ _
  rw [List.drop_drop]
  refine wpC_mono (forEnd (M := M) (n := n) X T C1 C2 ho hb hrl hdg F2 (if_pos rfl) ((if_neg (by decide +kernel)).trans w1) hob hor hys hq hq1 hL ⟨?_, ?_⟩ hrest (fun q hq => N2 q ?_)) (fun f s' hf => ?_) fun _ _ e => e
  · exact fun h => hM (96, t0) (by simp) h.symm
  · exact fun h => hM (103, t1) (by simp) h.symm
  · exact mem_in2 hq
  · obtain ⟨rfl, t0'', c0'', oc0'', t1'', c1'', oc1'', hq'', hq1'', h3, tk3, m3, rfl, ⟨p1, p2⟩, F3, N3⟩ := hf
    refine ⟨rfl, t0'', c0'', oc0'', t1'', c1'', oc1'', hq'', hq1'', h3, tk3, m3, rfl, p2, F3, fun q hq => N3 q ?_⟩
    exact mem_ins2 hq
/-- the turn, from the ledger of the loop -/
theorem turn0R {w : World} {s : Shared} {g : Heap} {p : Program} {loose : List Str} {mean : ExcName → Option Value} {mg mb : Str → Option Value} {E : Value → Shared → Prop}
    {name qual : Str} {params : Arguments} {body : List Stmt} {scope : Scope} {dV kV doc pm cdv ct oc : Value} {an od : Option Addr} {osl : Array (Option Value)}
    (X : (hd.heap_39 w.params).In g) (T : Top p loose mean mg mb g) (C1 : CodeHd g 107 103) (C2 : CodeHd g 100 96)
    (ho : (hd.heap_39 w.params).lookup 141 = some ⟨oc, od, .func (fnOf name qual params body scope dV kV doc pm an cdv ct), osl⟩)
    {L : Addr} {m : Str → Option Value} {ob orow : Obj} {rest : List (Addr × Obj)} {b : Nat} {row : List Nat} {tb tr tw : Tok} (hb : b < row.length) (hrl : row.length ≤ 15) (hdg : ∀ c ∈ row, 48 ≤ c ∧ c ≤ 57)
    (F : Fr g L s.heap m) (hwh : m (Str.ofString "whole") = some (.int ((NumText.digitsVal row : Nat) : Int) tw)) (hob : ob.data = .cell (some (.int (b : Int) tb))) (hor : orow.data = .cell (some (.str (sOf row) tr)))
    {t0 t1 oc0 oc1 : Obj} {c0 c1 : Addr} (hq : Tq 96 110 4 q96 t0 c0 oc0) (hq1 : Tq 103 125 4 q103 t1 c1 oc1) (hL : @LT.lt Nat _ 103 L) (hrest : ∀ q ∈ rest, NoCode q.2 ∧ q.1 ≠ 96 ∧ q.1 ≠ 103)
    {It : Addr} {o₁ : Obj} (nIt : NoCode o₁) (hIt : @LT.lt Nat _ L It) (ha : L + 1 + 1 ≠ It) (hb' : L + 1 ≠ It) (hr : ∀ q ∈ rest, q.1 ≠ It)
    (N : News g L s.heap ((It, o₁) :: led0 L ob orow t0 c0 oc0 t1 c1 oc1 rest)) :
    wpC (model PySem.Challenge.rw_nb0217_01.row.prog w) (callerA.deeper (envOfC qual scope L 141 cdv)) (execs (forBody (body.drop 4)) (envOfC qual scope L 141 cdv))
      (fun f s' => f = .next ∧ ∃ m₂ others₂ h₂ tk₂, s' = { s with heap := h₂, toks := tk₂ } ∧ (m₂ (Str.ofString "whole") = some (.int ((NumText.digitsVal row : Nat) : Int) tw) ∧ ∃ ob t0 c0 oc0 t1 c1 oc1 vb, others₂ = led0 L ob orow t0 c0 oc0 t1 c1 oc1 rest ∧ ob.data = .cell vb ∧ Tq 96 110 4 q96 t0 c0 oc0 ∧ Tq 103 125 4 q103 t1 c1 oc1) ∧
        Fr g L h₂ m₂ ∧ News g L h₂ ((It, o₁) :: others₂) ∧ (∀ q ∈ others₂, q.1 ≠ It)) E s := by
  have i96 : It ≠ 96 := fun h => by have : @Eq Nat It 96 := h; (first | lia | omega)
  have i103 : It ≠ 103 := fun h => by have : @Eq Nat It 103 := h; (first | lia | omega)
  refine wpC_mono (turn0 (rest := (It, o₁) :: rest) X T C1 C2 ho hb hrl hdg F hwh hob hor hq hq1 hL (List.forall_mem_cons.mpr ⟨⟨nIt, i96, i103⟩, hrest⟩) (fun q hq => N q ?_)) (fun f s' hf => ?_) fun _ _ e => e
  · exact mem_in6 hq
  · obtain ⟨rfl, t0'', c0'', oc0'', t1'', c1'', oc1'', hq'', hq1'', h2, tk2, m2, rfl, p2, F3, N3⟩ := hf
    refine ⟨rfl, m2, led0 L ob orow t0'' c0'' oc0'' t1'' c1'' oc1'' rest, h2, tk2, rfl, ⟨p2, _, _, _, _, _, _, _, _, rfl, hob, hq'', hq1''⟩, F3, fun q hq => N3 q ?_, ?_⟩
    · exact mem_out6 hq
    · have z0 := apartC N3 hq'' (List.Mem.tail _ (List.Mem.tail _ (List.Mem.tail _ (List.Mem.head _)))) (q := (It, o₁)) (List.Mem.tail _ (List.Mem.tail _ (List.Mem.tail _ (List.Mem.tail _ (List.Mem.tail _ (List.Mem.tail _ (List.Mem.head _))))))) nIt i96
      have z1 := apartC N3 hq1'' (List.Mem.tail _ (List.Mem.tail _ (List.Mem.tail _ (List.Mem.tail _ (List.Mem.tail _ (List.Mem.head _)))))) (q := (It, o₁)) (List.Mem.tail _ (List.Mem.tail _ (List.Mem.tail _ (List.Mem.tail _ (List.Mem.tail _ (List.Mem.tail _ (List.Mem.head _))))))) nIt i103
      exact List.forall_mem_cons.mpr ⟨ha, List.forall_mem_cons.mpr ⟨hb', List.forall_mem_cons.mpr ⟨Ne.symm i96, List.forall_mem_cons.mpr ⟨Ne.symm z0, List.forall_mem_cons.mpr ⟨Ne.symm i103, List.forall_mem_cons.mpr ⟨Ne.symm z1, hr⟩⟩⟩⟩⟩⟩
end Mine

end TxtLC
section TxtLD
theorem Mine.Off.offLD : True := by
  w_top off
  trivial
open PySem PySem.W PySem.Spec PySem.Calls PyProof.Rows
set_option Elab.async false
set_option maxRecDepth 100000
set_option maxHeartbeats 2000000
namespace Mine

def LawEnd (g : Heap) (ps : Array Value) (s s' : Shared) : Prop := ∃ h' tk' ps1 ps2, s' = { s with heap := h', toks := tk' } ∧ St g [(103, tabObj ps1), (96, tabObj ps2), (68, tabObj ps)] h'
theorem tq_tab {P : Addr} {l c : Nat} {qual : Str} {t : Obj} {c0 : Addr} {oc0 : Obj} (h : Tq P l c qual t c0 oc0) : ∃ ps, t = tabObj ps := by
  rcases h with ⟨e, _⟩ | ⟨e, _⟩ <;> exact ⟨_, e⟩
theorem lawLoops {w : World} {s : Shared} {g : Heap} {p : Program} {loose : List Str} {mean : ExcName → Option Value} {mg mb : Str → Option Value} {E : Value → Shared → Prop}
    {name qual : Str} {params : Arguments} {body : List Stmt} {scope : Scope} {dV kV doc pm cdv ct oc : Value} {an od : Option Addr} {osl : Array (Option Value)}
    (X : (hd.heap_39 w.params).In g) (T : Top p loose mean mg mb g) (C1 : CodeHd g 107 103) (C2 : CodeHd g 100 96)
    (ho : (hd.heap_39 w.params).lookup 141 = some ⟨oc, od, .func (fnOf name qual params body scope dV kV doc pm an cdv ct), osl⟩)
    {L : Addr} {m : Str → Option Value} {ob orow : Obj} {ps : Array Value} {row : List Nat} {tr tw : Tok} {vb : Option Value} (hrl : row.length ≤ 15) (hdg : ∀ c ∈ row, 48 ≤ c ∧ c ≤ 57)
    (F : Fr g L s.heap m) (hwh : m (Str.ofString "whole") = some (.int ((NumText.digitsVal row : Nat) : Int) tw)) (hob : ob.data = .cell vb) (hor : orow.data = .cell (some (.str (sOf row) tr)))
    {t0 t1 oc0 oc1 : Obj} {c0 c1 : Addr} (hq : Tq 96 110 4 q96 t0 c0 oc0) (hq1 : Tq 103 125 4 q103 t1 c1 oc1) (hL : @LT.lt Nat _ 103 L) (hps : NoCode (tabObj ps))
    (N : News g L s.heap (led0 L ob orow t0 c0 oc0 t1 c1 oc1 [(68, tabObj ps)])) :
    wpC (model PySem.Challenge.rw_nb0217_01.row.prog w) (callerA.deeper (envOfC qual scope L 141 cdv)) (execs (body.drop 4) (envOfC qual scope L 141 cdv))
      (fun f s' => f = .ret (.bool true) ∧ LawEnd g ps s s') E s := by
  have B := below_caller g
  revert X; k_fill; intro X
  refine' useFnH (P := fun qual body scope cdv => wpC (model PySem.Challenge.rw_nb0217_01.row.prog w) (callerA.deeper (envOfC qual scope L 141 cdv)) (execs (body.drop 4) (envOfC qual scope L 141 cdv))
      (fun f s' => f = .ret (.bool true) ∧ LawEnd g ps s s') E s) ho ?a ?_
  (case a => k_is)
  clear ho
  intro ho2
  dsimp only [List.drop, List.take, forBody]
  have hl0 : (sOf row).length = row.length := sOf_length row
  refine wpC_execs_cons (wpC_For ?_)
  repeat' (first | (k_unfold; (try dsimp only)) | ((fail_if_success with_reducible show wpAny _ _ (PySem.call (Value.ref _) _ _) _ _ _); (fail_if_success with_reducible show wpAny _ _ (binaryOp Operator.Add (Value.str _ _) (Value.str _ _)) _ _ _); (fail_if_success with_reducible show wpAny _ _ (pyIter _) _ _ _); first | walk1 | (dsimp only; walk1)))
  have hR := ‹IsRange _ _ _ _ _ _ _ _›
  have FF := ‹Fr g L _ m›
  have NN := ‹News g L _ _›
  rw [hl0] at hR
  have esz : Builtin.Range.rangeSize 0 (row.length : Int) 1 = ((row.length : Nat) : Int) := by
    unfold Builtin.Range.rangeSize
    rw [if_pos (by decide)]
    by_cases z : (0 : Int) < (row.length : Int)
    · rw [if_pos z, Int.ediv_one]; (first | lia | omega)
    · rw [if_neg z]; (first | lia | omega)
  refine wpAny_pyIter_range hR (small_one (by (first | lia | omega)) (by (first | lia | omega)) (by (first | lia | omega)) (by (first | lia | omega))) ?_
  rw [esz]
  have N2 := News.push FF NN { cls := .type "range_iterator", data := .fields #[rawInt 0, rawInt (row.length : Int), rawInt 1] }
  have F2 := FF.push { cls := .type "range_iterator", data := .fields #[rawInt 0, rawInt (row.length : Int), rawInt 1] }
  have hlt := ltSize NN
  have hIL : @LT.lt Nat _ L _ := FF.ns.lt
  refine loopR rfl 0 row.length (fun _ m₁ others₁ => m₁ (Str.ofString "whole") = some (.int ((NumText.digitsVal row : Nat) : Int) tw) ∧ ∃ ob t0 c0 oc0 t1 c1 oc1 vb, others₁ = led0 L ob orow t0 c0 oc0 t1 c1 oc1 [(68, tabObj ps)] ∧ ob.data = .cell vb ∧ Tq 96 110 4 q96 t0 c0 oc0 ∧ Tq 103 125 4 q103 t1 c1 oc1)
    ⟨hwh, _, _, _, _, _, _, _, _, rfl, hob, hq, hq1⟩ F2 N2 (Heap.get?_push_size _ rfl) (fun q hq => Nat.ne_of_lt (hlt q hq)) ?_ ?_
  · rintro i m₁ others₁ o₁ h₁ tk₁ t hi ⟨j2, ob', t0', c0', oc0', t1', c1', oc1', vb', rfl, hob', hq', hq1'⟩ F₁ N₁ hR₁ hap₁
    have nIt := noCode_rangeIter N₁ hR₁
    clear F2 N2 NN FF
    rw [show (0 : Int) + (i : Nat) = ((i : Nat) : Int) by (first | lia | omega)]
    repeat' (first | (k_unfold; (try dsimp only)) | ((fail_if_success with_reducible show wpAny _ _ (PySem.call (Value.ref _) _ _) _ _ _); (fail_if_success with_reducible show wpAny _ _ (binaryOp Operator.Add (Value.str _ _) (Value.str _ _)) _ _ _); first | walk1 | (dsimp only; walk1)))
    have n96 : @Ne Addr (L + 1 + 1) 96 := fun h => by have : @Eq Nat (L + 1 + 1) 96 := h; (first | lia | omega)
    have n103 : @Ne Addr (L + 1 + 1) 103 := fun h => by have : @Eq Nat (L + 1 + 1) 103 := h; (first | lia | omega)
    have n68 : @Ne Addr (L + 1 + 1) 68 := fun h => by have : @Eq Nat (L + 1 + 1) 68 := h; (first | lia | omega)
    have n1 : @Ne Addr (L + 1 + 1) (L + 1) := fun h => by have : @Eq Nat (L + 1 + 1) (L + 1) := h; (first | lia | omega)
    have z0 := apartC N₁ hq' (List.Mem.tail _ (List.Mem.tail _ (List.Mem.tail _ (List.Mem.tail _ (List.Mem.head _))))) (q := (L + 1 + 1, ob')) (List.Mem.tail _ (List.Mem.head _)) (noCode_cell hob') n96
    have z1 := apartC N₁ hq1' (List.Mem.tail _ (List.Mem.tail _ (List.Mem.tail _ (List.Mem.tail _ (List.Mem.tail _ (List.Mem.tail _ (List.Mem.head _))))))) (q := (L + 1 + 1, ob')) (List.Mem.tail _ (List.Mem.head _)) (noCode_cell hob') n103
    have ux : ∀ q ∈ (L + 1, orow) :: (96, t0') :: (c0', oc0') :: (103, t1') :: (c1', oc1') :: [(68, tabObj ps)], q.1 ≠ L + 1 + 1 :=
      List.forall_mem_cons.mpr ⟨Ne.symm n1, List.forall_mem_cons.mpr ⟨Ne.symm n96, List.forall_mem_cons.mpr ⟨Ne.symm z0, List.forall_mem_cons.mpr ⟨Ne.symm n103, List.forall_mem_cons.mpr ⟨Ne.symm z1, List.forall_mem_cons.mpr ⟨Ne.symm n68, List.forall_mem_nil _⟩⟩⟩⟩⟩⟩
    have hIa := hap₁ _ (List.Mem.head _)
    have hIb := hap₁ _ (List.Mem.tail _ (List.Mem.head _))
    refine storeX_C F₁ N₁ rfl (UpdF.tail (Ne.symm hIa) (UpdF.head ux)) hob' ?_ rfl rfl
    intro h4 ob4 F4 N4 hob4
    show wpC _ _ _ _ _ _
    exact turn0R (b := i) X T C1 C2 ho2 hi hrl hdg F4 j2 hob4 hor hq' hq1' hL (List.forall_mem_cons.mpr ⟨⟨hps, (show @Ne Nat 68 96 from by decide), (show @Ne Nat 68 103 from by decide)⟩, List.forall_mem_nil _⟩) nIt hIL hIa hIb (List.forall_mem_cons.mpr ⟨hap₁ (68, tabObj ps) (List.Mem.tail _ (List.Mem.tail _ (List.Mem.tail _ (List.Mem.tail _ (List.Mem.tail _ (List.Mem.tail _ (List.Mem.head _))))))), List.forall_mem_nil _⟩) N4
  · rintro m₁ others₁ h₁ tk₁ ⟨j2, ob', t0', c0', oc0', t1', c1', oc1', vb', rfl, hob', hq', hq1'⟩ F₁ N₁
    show wpC _ _ _ _ _ _
    refine wpC_of ?_
    repeat' (first | (k_unfold; (try dsimp only)) | ((fail_if_success with_reducible show wpAny _ _ (PySem.call (Value.ref _) _ _) _ _ _); (fail_if_success with_reducible show wpAny _ _ (binaryOp Operator.Add (Value.str _ _) (Value.str _ _)) _ _ _); first | walk1 | (dsimp only; walk1)))
    obtain ⟨ps2, rfl⟩ := tq_tab hq'
    obtain ⟨ps1, rfl⟩ := tq_tab hq1'
    exact ⟨h₁, tk₁, ps1, ps2, rfl, St.of_fr F₁ N₁ (List.forall_mem_cons.mpr ⟨(List.Mem.tail _ (List.Mem.tail _ (List.Mem.tail _ (List.Mem.tail _ (List.Mem.head _))))), List.forall_mem_cons.mpr ⟨(List.Mem.tail _ (List.Mem.tail _ (List.Mem.head _))), List.forall_mem_cons.mpr ⟨(List.Mem.tail _ (List.Mem.tail _ (List.Mem.tail _ (List.Mem.tail _ (List.Mem.tail _ (List.Mem.tail _ (List.Mem.head _))))))), List.forall_mem_nil _⟩⟩⟩)⟩
end Mine

end TxtLD
section TxtLE
theorem Mine.Off.offLE : True := by
  w_top off
  trivial
open PySem PySem.W PySem.Spec PySem.Calls PyProof.Rows
set_option Elab.async false
set_option maxRecDepth 100000
set_option maxHeartbeats 2000000
namespace Mine

theorem withFn {P : Prop} {K : Frag} {f : Addr} {name qual : Str} {params : Arguments} {body : List Stmt} {scope : Scope} {dV kV doc pm cdv ct oc : Value} {an od : Option Addr} {osl : Array (Option Value)}
    (ho : K.lookup f = some ⟨oc, od, .func (fnOf name qual params body scope dV kV doc pm an cdv ct), osl⟩) (h : K.lookup f = some ⟨oc, od, .func (fnOf name qual params body scope dV kV doc pm an cdv ct), osl⟩ → P) : P := h ho
theorem cLaw {w : World} {s : Shared} {g : Heap} {p : Program} {loose : List Str} {mean : ExcName → Option Value} {mg mb : Str → Option Value} {R : Result → Shared → Prop} {l : Addr} {vs : List Value} {ns : List Int}
    (X : (hd.heap_39 w.params).In g) (T : Top p loose mean mg mb g) (C1 : CodeHd g 107 103) (C2 : CodeHd g 100 96) (C3 : CodeHd g 72 68) (S : St g [(103, tabObj #[]), (96, tabObj #[]), (68, tabObj #[])] s.heap) (hl : g.IsList l vs.toArray) (hI : IntsAre vs ns) (hn : ns.length ≤ 63)
    (ret : ∀ h' dr tk' ps1 ps2 ps3, St g [(103, tabObj ps1), (96, tabObj ps2), (68, tabObj ps3)] h' → R (.ok (.ret (.bool true))) { s with heap := h', drawn := dr, toks := tk' }) :
    codeC (model PySem.Challenge.rw_nb0217_01.row.prog w) callerA (.call (.ref 141) ⟨[.ref l], []⟩) R s := by
  have B := below_caller g
  revert X; k_fill; intro X
  refine' withFn (K := hd.heap_39 w.params) (f := 141) ?k6 ?_
  (case k6 => k_is)
  intro ho2
  refine' enterKC S X T ho2 ?k7 ?k8 ?k9 ?kB ?kD ?_ ?c2 ?c3 ?c4
  (case k7 => k_is)
  (case k8 => k_room)
  (case k9 => exact BindsTo.of_eq rfl)
  (case kB => exact rfl)
  (case kD => decide +kernel)
  (case c2 => exact rfl)
  (case c3 => exact rfl)
  (case c4 => exact rfl)
  intro L' h' tk' cells' F' N' Y' l1 hLs
  (try k_lt l1)
  k_cells Y'
  (try simp only [List.cons_append, List.nil_append] at N')
  (try dsimp only)
  (try k_fold)
  have F2 := Fr.pin F' (x := Str.ofString "script") (v := some (.ref l)) rfl
  refine wpC_execs_split 4 (wpAny_mono (lawPre X T C1 C2 C3 hl hI hn ho2 F2 (by assumption) (by assumption) N' l1) (fun f s' hf => ?_) fun _ _ e => e)
  obtain ⟨rfl, h2, dr2, tk2, tr, tw, vb, m, others, rfl, F3, hwh, N3, hled⟩ := hf
  obtain ⟨ob, orow, t0, c0, oc0, t1, c1, oc1, ps, rfl, hob, hor, hq, hq1, hnc⟩ := hled
  show wpC _ _ _ _ _ _
  refine wpC_mono (lawLoops X T C1 C2 ho2 (rowOf_len ns).2 (rowOf_dig ns) F3 hwh hob hor hq hq1 l1.1 hnc N3) (fun f s' hf => ?_) (fun e s' he => he)
  obtain ⟨rfl, h4, tk4, ps1, ps2, rfl, S4⟩ := hf
  exact ret _ _ _ _ _ _ S4
theorem holds : PySem.Challenge.rw_nb0217_01.Holds := main (fun X T C1 C2 C3 S hl hI hn ret => cLaw X T C1 C2 C3 S hl hI hn ret)
end Mine

end TxtLE
set_option maxRecDepth 100000 in
set_option maxHeartbeats 8000000 in
theorem PySem.Challenge.cw_nb0217_01_holds : PySem.Challenge.rw_nb0217_01.Holds := by
  exact Mine.holds
