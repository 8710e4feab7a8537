import PyProof.Rows.All
import Wide.All
import OpenK.AllK
import Wide.FinOn
import PySem.Challenge.RW_ph0150_01
set_option Elab.async false
set_option maxRecDepth 100000
set_option maxHeartbeats 2000000
namespace Mine
open PySem PySem.W PyProof.Rows PySem.Calls
noncomputable abbrev FF : Value → Shared → Prop := fun _ _ => False
/-! contexts that stand under the claim's caller -/
noncomputable def Und (Γ : Ctx) : Prop := Γ.below.any (fun c => c.1.isCaller) = true
/-- a family of contexts that calls keep -/
structure Un where
  U : Ctx → Prop
  enter : ∀ {Γ : Ctx}, U Γ → ∀ c hd p, U (Γ.enter c hd p)
  goto : ∀ {Γ : Ctx}, U Γ → ∀ c, U (Γ.goto c)
noncomputable def wpK (U : Un) {α : Type} (M : Model) (A : Around) (t : Sem α) (Q : α → Shared → Prop) (E : Value → Shared → Prop) (s : Shared) : Prop :=
  ∀ Γ p, Γ.In A → U.U Γ → Sem.wp M Γ t (fun a _ s' => Q a s') (fun e _ s' => E e s') p s
noncomputable def codeK (U : Un) (M : Model) (A : Around) (c : Code) (R : Result → Shared → Prop) (s : Shared) : Prop :=
  ∀ Γ p, Γ.code = c → Γ.Below A → U.U Γ → wpCode M Γ R p s
theorem Und.enter {Γ : Ctx} (h : Und Γ) (c : Code) (hd : Option Value) (p : Pos) : Und (Γ.enter c hd p) := by
  show ((Γ.code, p) :: Γ.below).any _ = true
  rw [List.any_cons, show Γ.below.any (fun c => c.1.isCaller) = true from h, Bool.or_true]
theorem Und.goto {Γ : Ctx} (h : Und Γ) (c : Code) : Und (Γ.goto c) := h

noncomputable def Un.all : Un := ⟨fun _ => True, fun _ _ _ _ => trivial, fun _ _ => trivial⟩
noncomputable def Un.und : Un := ⟨Und, fun h => h.enter, fun h => h.goto⟩
section
variable {U : Un} {α β : Type} {M : Model} {A : Around} {E : Value → Shared → Prop} {s : Shared}
theorem wpAny.k {t : Sem α} {Q : α → Shared → Prop} (h : wpAny M A t Q E s) : wpK U M A t Q E s := fun Γ p hΓ _ => h Γ p hΓ
theorem wpK.any {t : Sem α} {Q : α → Shared → Prop} (h : wpK Un.all M A t Q E s) : wpAny M A t Q E s := fun Γ p hΓ => h Γ p hΓ trivial
theorem wpK_pure {a : α} {Q : α → Shared → Prop} (h : Q a s) : wpK U M A (pure a) Q E s := fun _ _ _ _ => h
theorem wpK_mono {t : Sem α} {Q Q' : α → Shared → Prop} {E' : Value → Shared → Prop} (h : wpK U M A t Q E s) (hQ : ∀ a s, Q a s → Q' a s) (hE : ∀ e s, E e s → E' e s) : wpK U M A t Q' E' s :=
  fun Γ p hΓ hU => Sem.wp_mono M Γ t (fun a _ s => hQ a s) (fun e _ s => hE e s) p s (h Γ p hΓ hU)
theorem wpK_bind {m : Sem α} {f : α → Sem β} {Q : β → Shared → Prop} (h : wpK U M A m (fun a s' => wpK U M A (f a) Q E s') E s) : wpK U M A (m >>= f) Q E s := fun Γ p hΓ hU => by
  rw [Sem.wp_bind']
  exact Sem.wp_mono M Γ m (fun a p' s' h' => h' Γ p' hΓ hU) (fun _ _ _ h' => h') p s (h Γ p hΓ hU)
theorem wpK_onRaise {m : Sem α} {k : Value → Sem Unit} {Q : α → Shared → Prop} (h : wpK U M A m Q (fun e s' => wpK U M A (k e) (fun _ s'' => E e s'') E s') s) : wpK U M A (m.onRaise k) Q E s := fun Γ p hΓ hU => by
  rw [Sem.wp_onRaise]
  exact Sem.wp_mono M Γ m (fun _ _ _ h' => h') (fun e p' s' h' => h' Γ p' hΓ hU) p s (h Γ p hΓ hU)
theorem wpK_attempt {m : Sem α} {Q : Except Value α → Shared → Prop} (h : wpK U M A m (fun a => Q (.ok a)) (fun e => Q (.error e)) s) : wpK U M A m.attempt Q E s := fun Γ p hΓ hU => by rw [Sem.wp_attempt]; exact h Γ p hΓ hU
theorem wpK_holding {vs : List Value} {m : Sem α} {Q : α → Shared → Prop} (h : wpK U M A m Q E s) : wpK U M A (holding vs m) Q E s := fun Γ p hΓ hU => by rw [Sem.wp_holding]; exact h Γ p hΓ hU
theorem wpK_standAt {pos : Pos} {Q : Unit → Shared → Prop} (h : Q () s) : wpK U M A (standAt pos) Q E s := fun _ _ _ _ => h
theorem wpK_point {Q : Unit → Shared → Prop} (h : Q () s) : wpK U M A point Q E s := fun _ _ _ _ => h
theorem wpK_rule {tag : String} {Q : Unit → Shared → Prop} (h : Q () s) : wpK U M A (rule tag) Q E s := fun _ _ _ _ => h
theorem wpK_of_eq {t : Sem α} {a : α} {Q : α → Shared → Prop} (e : t = pure a) (h : Q a s) : wpK U M A t Q E s := e ▸ wpK_pure h
theorem codeK_mono {c : Code} {R R' : Result → Shared → Prop} (h : codeK U M A c R s) (hR : ∀ r s, R r s → R' r s) : codeK U M A c R' s := fun Γ p hc hΓ hU => wpCode_mono hR (h Γ p hc hΓ hU)
theorem wpK_run {c : Code} {h : Option Value} {Q : Flow → Shared → Prop} (hc : codeK U M (A.mark h) c (fun r s' => match r with | .ok f => Q f s' | .error e => E e s') s) (hnb : h ≠ some byPass := by intro x; cases x) : wpK U M A (run c h) Q E s :=
  fun Γ p hΓ hU => by rw [Sem.wp_run]; exact hc _ p rfl (hΓ.enter c h p hnb) (U.enter hU c h p)
theorem wpK_runValue {c : Code} {Q : Value → Shared → Prop} (hc : codeK U M A c (fun r s' => match r with | .ok (.ret v) => Q v s' | .ok _ => False | .error e => E e s') s) : wpK U M A (runValue c) Q E s :=
  fun Γ p hΓ hU => by rw [Sem.wp_runValue]; exact hc _ p rfl (hΓ.enter c none p (by intro x; cases x)) (U.enter hU c none p)
theorem wpK_call {f : Value} {pos : List Value} {kw : List (Str × Value)} {Q : Value → Shared → Prop} (hc : codeK U M A (.call f ⟨pos, kw⟩) (fun r s' => match r with | .ok (.ret v) => Q v s' | .ok _ => False | .error e => E e s') s) : wpK U M A (call f pos kw) Q E s := wpK_runValue hc
theorem codeK_of_tree {c : Code} {R : Result → Shared → Prop} (h : wpK U M (A.under c) (M.den c) (fun fin s' => match fin with | .done f => R (.ok f) s' | .again c' => c'.quiet = true ∧ codeK U M A c' R s') (fun e s' => R (.error e) s') s) : codeK U M A c R s := fun Γ p hc hΓ hU => by
  rw [wpCode_iff_wp, hc]
  refine Sem.wp_mono M Γ _ (fun fin p' s' h' => ?_) (fun _ _ _ h' => h') p s (h Γ p (hc ▸ hΓ.in) hU)
  cases fin with
  | done f => exact h'
  | again c' => exact ⟨h'.1, h'.2 (Γ.goto c') p' rfl (hΓ.goto c') (U.goto hU c')⟩
theorem codeK_loop {c : Code} {R : Result → Shared → Prop} (hq : c.quiet = true) (I : Nat → Shared → Prop)
    (turn : ∀ n s, I n s → wpK U M (A.under c) (M.den c) (fun fin s' => match fin with
        | .done f => R (.ok f) s'
        | .again c' => (c' = c ∧ ∃ m, m < n ∧ I m s') ∨ (c'.quiet = true ∧ codeK U M A c' R s')) (fun e s' => R (.error e) s') s)
    (n : Nat) (h : I n s) : codeK U M A c R s := by
  induction n using Nat.strongRecOn generalizing s with
  | ind n ih =>
    refine codeK_of_tree (wpK_mono (turn n s h) (fun fin s' hf => ?_) fun _ _ h' => h')
    cases fin with
    | done f => exact hf
    | again c' =>
      rcases hf with ⟨rfl, m, hm, hI⟩ | hf
      · exact ⟨hq, ih m hm hI⟩
      · exact hf
end


section
variable {U : Un} {prog : Program} {w : World} {A : Around} {E : Value → Shared → Prop} {s : Shared} {env : Env} {R : Result → Shared → Prop}
theorem wpK_execs_cons {M : Model} {st : Stmt} {rest : List Stmt} {Q : Flow → Shared → Prop} (h : wpK U M A (exec st env) (fun f s' => match f with | .next => wpK U M A (execs rest env) Q E s' | f => Q f s') E s) : wpK U M A (execs (st :: rest) env) Q E s := by
  rw [execs_cons]
  refine wpK_bind (wpK_mono h (fun f s' h' => ?_) fun _ _ x => x)
  cases f <;> first | exact h' | exact wpK_pure h'
theorem wpK_If {M : Model} {test : Expr} {body orelse : List Stmt} {pos : Pos} {Q : Flow → Shared → Prop} (h : wpK U M A (isTrue test env (eval test env)) (fun b s₂ => if b then wpK U M A (execs body env) Q E s₂ else wpK U M A (execs orelse env) Q E s₂) E s) :
    wpK U M A (exec (.If test body orelse pos) env) Q E s := by
  rw [exec_If]
  refine wpK_bind (wpK_standAt (wpK_bind (wpK_mono h (fun b s' h' => ?_) fun _ _ x => x)))
  cases b <;> exact h'
theorem wpK_Return_some {M : Model} {e : Expr} {pos : Pos} {Q : Flow → Shared → Prop} (h : wpK U M A (eval e env) (fun v => Q (.ret v)) E s) : wpK U M A (exec (.Return (some e) pos) env) Q E s := by
  rw [exec_Return_some]
  exact wpK_bind (wpK_standAt (wpK_bind (wpK_mono h (fun v s' h' => wpK_pure h') fun _ _ x => x)))
theorem wpK_runOwn {M : Model} {c : Code} {Q : Flow → Shared → Prop} (hc : codeK U M A c (fun r s' => match r with | .ok f => Q f s' | .error _ => False) s) : wpK U M A (runOwn c env none) Q E s := by
  unfold runOwn
  refine wpK_onRaise (wpK_run ?_)
  rw [Around.mark_none]
  refine codeK_mono hc fun r s' hr => ?_
  cases r with
  | ok f => exact hr
  | error e => exact hr.elim
theorem wpK_For {M : Model} {target iter : Expr} {body orelse : List Stmt} {pos : Pos} {Q : Flow → Shared → Prop}
    (h : wpK U M A (eval iter env) (fun x s₁ => wpK U M A (pyIter x) (fun it s₂ => codeK U M A (.forLoop target it body orelse env) (fun r s' => match r with | .ok f => Q f s' | .error _ => False) s₂) E s₁) E s)
    (hs : ∀ x, foldedSetIterable iter env x = pure x) : wpK U M A (exec (.For target iter body orelse pos) env) Q E s := by
  rw [exec_For]
  exact wpK_bind (wpK_standAt (wpK_bind (wpK_mono h (fun x s₁ h₁ => wpK_bind (wpK_of_eq (hs x) (wpK_bind (wpK_standAt (wpK_bind (wpK_holding (wpK_mono h₁ (fun it s₂ h₂ => wpK_runOwn h₂) fun _ _ h' => h'))))))) fun _ _ h' => h')))
theorem codeK_block {stmts : List Stmt} (h : wpK U (model prog w) A (execs stmts env) (fun f s' => R (.ok f) s') FF s) : codeK U (model prog w) A (.block stmts env) R s := by
  refine codeK_of_tree ?_
  show wpK _ _ A (do return Fin.done (← (execs stmts env).onRaise (fun x => do noteFrame x env; theTreesLotGoes x))) _ _ s
  exact wpK_bind (wpK_onRaise (wpK_mono h (fun f s' h' => wpK_pure h') fun _ _ x => x.elim))
theorem codeK_forLoop {target : Expr} {it : Value} {body orelse : List Stmt} (I : Nat → Shared → Prop)
    (turn : ∀ n s, I n s → wpAny (model prog w) A (pyNext it) (fun r s₁ => match r with
      | none => wpK U (model prog w) A (execs orelse env) (fun f s₃ => R (.ok f) s₃) FF s₁
      | some v => wpAny (model prog w) A (letOwnedTupleGo target it v) (fun _ s₁' =>
          wpAny (model prog w) A (assign target env v) (fun _ s₂ => wpK U (model prog w) A (execs body env) (fun f s₃ => match f with
            | .next | .cont => ∃ m, m < n ∧ I m s₃
            | .brk => R (.ok .next) s₃
            | .ret v => R (.ok (.ret v)) s₃) FF s₂) FF s₁') FF s₁) FF s)
    (n : Nat) (h : I n s) : codeK U (model prog w) A (.forLoop target it body orelse env) R s := by
  refine codeK_loop rfl I (fun n s hI => ?_) n h
  show wpK _ _ A ((forTurn target it body orelse env).onRaise (fun x => do noteFrame x env; theTreesLotGoes x)) _ _ s
  refine wpK_onRaise (E := fun e s' => R (.error e) s') ?_
  simp only [forTurn]
  refine wpK_mono (E := FF) (wpK_bind (wpK_standAt (wpK_bind (wpK_onRaise (wpK_mono (wpAny.k (turn n s hI)) (fun r s₁ h₁ => ?_) fun _ _ h' => h'.elim))))) (fun _ _ x => x) fun _ _ x => x.elim
  cases r with
  | none => exact wpK_pure (.inr ⟨rfl, codeK_block h₁⟩)
  | some v =>
    refine wpK_bind (wpK_mono (wpAny.k h₁) (fun _ s₁' h₁' => ?_) fun _ _ h' => h')
    refine wpK_bind (wpK_mono (wpAny.k h₁') (fun _ s₂ h₂ => wpK_bind (wpK_mono h₂ (fun f s₃ h₃ => ?_) fun _ _ h' => h')) fun _ _ h' => h')
    cases f with
    | next => exact wpK_pure (.inl ⟨rfl, h₃⟩)
    | cont => exact wpK_pure (.inl ⟨rfl, h₃⟩)
    | brk => exact wpK_pure h₃
    | ret v => exact wpK_pure h₃
theorem codeK_func {body : List Stmt} (h : wpK U (model prog w) (A.deeper env) (execs body env) (fun f s' => R (.ok (.ret (match f with | .ret v => v | _ => .none))) s') FF s) : codeK U (model prog w) A (.func body env) R s := by
  refine codeK_of_tree ?_
  show wpK _ _ (A.deeper env) (do point; match ← (execs body env).onRaise (leaving env) with | .ret v => ret v | _ => ret .none) _ _ s
  refine wpK_bind (wpK_point (wpK_bind (wpK_onRaise (wpK_mono h (fun f s' h' => ?_) fun _ _ h' => h'.elim))))
  cases f <;> exact wpK_pure h'
theorem codeK_call_function {a : Addr} {args : Args} {o : Obj} {fd : FuncData} {body : List Stmt} (hroom : A.depth < recursionLimit) (ho : s.heap.get? a = some o)
    (hd' : o.data = .func fd) (hco : fd.scope.isCoroutine = false) (hgen : fd.scope.isGenerator = false) (hbody : fd.body = .stmts body) (hcd : s.heap.CodeRec fd.code fd.qualname)
    (h : wpAny (model prog w) A.in1 (bindArgs fd args) (fun binds s₁ => wpAny (model prog w) A.in1 (newFunctionEnv fd.scope fd.globals fd.closure binds (fd.qualname ++ ".<locals>.") (some a) fd.code none fd.builtins)
        (fun env s₂ => s₂.heap.NoLimit ∧ codeK U (model prog w) A (.func body env) R s₂) FF s₁) FF s) : codeK U (model prog w) A (.call (.ref a) args) R s := by
  refine codeK_of_tree ?_
  show wpK _ _ A.in1 (callAny (.ref a) args) _ _ s
  simp only [callAny]
  refine wpK_bind (wpAny.k (wpAny_load ho ?_))
  obtain ⟨c, oc, vs, tq, hc, hoc, hdc, hq⟩ := hcd
  simp only [hd', callFunction, hco, hgen, hbody, hc]
  rw [hc] at h
  refine wpK_bind (m := field (.ref c) 1) (wpAny.k (wpAny_field hoc hdc hq ?_))
  refine wpK_bind (wpK_pure ?_)
  refine wpK_mono (E := FF) (wpK_bind (wpK_mono (wpAny.k h) (fun binds s₁ h₁ => wpK_bind (wpK_mono (wpAny.k h₁) (fun env s₂ h₂ => wpK_bind (wpK_mono (wpAny.k (wpAny_enterFrame (E := FF) (Q := fun _ s => s = s₂) h₂.1 hroom rfl)) (fun _ s₃ e => ?_) fun _ _ x => x)) fun _ _ x => x)) fun _ _ x => x)) (fun _ _ x => x) fun _ _ x => x.elim
  subst e
  exact wpK_pure ⟨rfl, h₂.2⟩
end
section
variable {U : Un} {M : Model} {A : Around} {E : Value → Shared → Prop} {s : Shared} {env : Env}
theorem wpK_Assign_Subscript {o i value : Expr} {pos' pos : Pos} {Q : Flow → Shared → Prop}
    (h : wpK U M A (eval value env) (fun v s₁ => wpK U M A (eval o env) (fun ov s₂ => wpK U M A (eval i env) (fun iv s₃ => wpK U M A (setItem ov iv v) (fun _ => Q .next) E s₃) E s₂) E s₁) E s)
    (hs : swapsWith value (some (.Subscript o i pos')) pos.line env = pure false) : wpK U M A (exec (.Assign [.Subscript o i pos'] value pos) env) Q E s := fun Γ p hΓ hU => by
  simp only [exec_Assign_Subscript o i pos' value pos hs, assign_Subscript, Sem.wp_bind', Sem.wp_holding, Sem.wp_cmd_standAt, Sem.wp_release, Sem.wp_pure']
  exact Sem.wp_mono M Γ _ (fun v p₁ s₁ h₁ => Sem.wp_mono M Γ _ (fun ov p₂ s₂ h₂ => Sem.wp_mono M Γ _ (fun iv _ s₃ h₃ => h₃ Γ _ hΓ hU) (fun _ _ _ h' => h') _ _ (h₂ Γ p₂ hΓ hU)) (fun _ _ _ h' => h') _ _ (h₁ Γ p₁ hΓ hU)) (fun _ _ _ h' => h') _ _ (h Γ _ hΓ hU)
theorem callWithK_function {pos : Pos} {a : Addr} {o : Obj} {fd : FuncData} {args : List (Bool × Sem Value)} {keywords : List (Option Str × Sem Value)} {Q : Value → Shared → Prop} (hp : (args.any (·.1) || keywords.any (·.1.isNone)) = false)
    (h : wpK U M A (evalArgs (.ref a) true args keywords) (fun x s₁ => (s₁.heap.get? a = some o ∧ o.data = .func fd) ∧ wpK U M A (call (.ref a) ([] ++ x.pos) x.kw) Q E s₁) E s) : wpK U M A (callWith pos (.ref a) [] args keywords) Q E s := by
  unfold callWith
  refine wpK_bind (wpK_holding (wpK_mono h (fun x s₁ h₁ => wpK_bind (wpK_standAt ?_)) fun _ _ x => x))
  rw [hp]
  have tail : ∀ {t : Sem Value}, wpK U M A t Q E s₁ → wpK U M A (t >>= fun r => holding [r] point >>= fun _ => pure r) Q E s₁ :=
    fun ht => wpK_bind (wpK_mono ht (fun r s₂ hr => wpK_bind (wpK_holding (wpK_point (wpK_pure hr)))) fun _ _ x => x)
  refine wpK_bind (m := keeperOf (.ref a)) (wpAny.k ?_)
  unfold keeperOf
  refine wpAny_bind (wpAny_load h₁.1.1 ?_)
  rw [h₁.1.2]
  refine wpAny_pure ?_
  dsimp only
  split
  · exact tail h₁.2
  · exact tail (by unfold callMarked; exact fun Γ p hΓ hU => by rw [Sem.wp_keep]; exact h₁.2 Γ p hΓ hU)
theorem wpK_Call_Name {id : Str} {p pos : Pos} {args : List Expr} {keywords : List Keyword} {Q : Value → Shared → Prop} (h : wpK U M A (eval (.Name id p) env) (fun f s₁ => wpK U M A (callWith pos f [] (backTo pos (starEach args env)) (backToKw pos (keywordEach keywords env))) Q E s₁) E s) :
    wpK U M A (eval (.Call (.Name id p) args keywords pos) env) Q E s := by
  rw [arm_eval_Call_Name']
  exact wpK_bind h

end
end Mine
set_option maxRecDepth 100000
namespace Mine
open PySem PySem.W PyProof.Rows

/-! data in a heap, off a set of addresses -/
mutual
inductive Rd (X : Addr → Prop) (h : Heap) : Value → PyData → Prop
  | none : Rd X h .none .none
  | bool (b : Bool) : Rd X h (.bool b) (.bool b)
  | int (i : Int) (t : Tok) : Rd X h (.int i t) (.int i)
  | str (x : Str) (t : Tok) : PyData.strOk x = true → Rd X h (.str x t) (.str x)
  | list {a : Addr} {vs : Array Value} {n : Nat} {ds : List PyData} : ¬ X a → h.get? a = some { cls := .type "list", data := .seq vs n } → RdL X h vs.toList ds → Rd X h (.ref a) (.list ds)
  | tuple {a : Addr} {vs : Array Value} {n : Nat} {ds : List PyData} : ¬ X a → h.get? a = some { cls := .type "tuple", data := .seq vs n } → RdL X h vs.toList ds → Rd X h (.ref a) (.tuple ds)
inductive RdL (X : Addr → Prop) (h : Heap) : List Value → List PyData → Prop
  | nil : RdL X h [] []
  | cons {v : Value} {d : PyData} {vs : List Value} {ds : List PyData} : Rd X h v d → RdL X h vs ds → RdL X h (v :: vs) (d :: ds)
end

mutual
theorem Rd.step {X X' : Addr → Prop} {h h' : Heap} (hk : ∀ b o, ¬ X b → h.get? b = some o → h'.get? b = some o) (hx : ∀ b o, ¬ X b → h.get? b = some o → ¬ X' b) : ∀ {v : Value} {d : PyData}, Rd X h v d → Rd X' h' v d
  | _, _, .none => .none
  | _, _, .bool b => .bool b
  | _, _, .int i t => .int i t
  | _, _, .str x t e => .str x t e
  | _, _, .list n e r => .list (hx _ _ n e) (hk _ _ n e) (RdL.step hk hx r)
  | _, _, .tuple n e r => .tuple (hx _ _ n e) (hk _ _ n e) (RdL.step hk hx r)
theorem RdL.step {X X' : Addr → Prop} {h h' : Heap} (hk : ∀ b o, ¬ X b → h.get? b = some o → h'.get? b = some o) (hx : ∀ b o, ¬ X b → h.get? b = some o → ¬ X' b) : ∀ {v : List Value} {d : List PyData}, RdL X h v d → RdL X' h' v d
  | _, _, .nil => .nil
  | _, _, .cons r p => .cons (Rd.step hk hx r) (RdL.step hk hx p)
end
mutual
theorem Rd.reads {X : Addr → Prop} {h : Heap} : ∀ {v : Value} {d : PyData}, Rd X h v d → d.canLay0 = true ∧ ∃ as, Reads h v d as
  | _, _, .none => ⟨rfl, _, .none⟩
  | _, _, .bool b => ⟨rfl, _, .bool b⟩
  | _, _, .int i t => ⟨rfl, _, .int i t⟩
  | _, _, .str x t e => ⟨e, _, .str x t⟩
  | _, _, .list _ e r => let ⟨c', _, r'⟩ := RdL.reads r; ⟨c', _, .list e rfl rfl r'⟩
  | _, _, .tuple _ e r => let ⟨c', _, r'⟩ := RdL.reads r; ⟨c', _, .tuple e rfl rfl r'⟩
theorem RdL.reads {X : Addr → Prop} {h : Heap} : ∀ {v : List Value} {d : List PyData}, RdL X h v d → PyData.canLayAll0 d = true ∧ ∃ as, ReadsAll h v d as
  | _, _, .nil => ⟨rfl, _, .nil⟩
  | _, _, .cons r p => let ⟨c, as, r'⟩ := Rd.reads r; let ⟨c', as', p'⟩ := RdL.reads p; ⟨by show (_ && _) = true; rw [c, c']; rfl, _, .cons r' p'⟩
end
section
variable {X : Addr → Prop} {h : Heap}
theorem RdL.len : ∀ {l : List Value} {k : List PyData}, RdL X h l k → l.length = k.length
  | _, _, .nil => rfl
  | _, _, .cons _ p => by simp [RdL.len p]
theorem RdL.get : ∀ {l : List Value} {k : List PyData}, RdL X h l k → ∀ {i : Nat} {b : PyData}, k[i]? = some b → ∃ a, l[i]? = some a ∧ Rd X h a b
  | _, _, .nil, _, _, e => by simp at e
  | _, _, .cons r p, 0, _, e => by simp at e; subst e; exact ⟨_, rfl, r⟩
  | _, _, .cons r p, i + 1, _, e => by simp at e; simpa using RdL.get p e
theorem RdL.getL : ∀ {l : List Value} {k : List PyData}, RdL X h l k → ∀ {i : Nat} {a : Value}, l[i]? = some a → ∃ b, k[i]? = some b ∧ Rd X h a b
  | _, _, .nil, _, _, e => by simp at e
  | _, _, .cons r p, 0, _, e => by simp at e; subst e; exact ⟨_, rfl, r⟩
  | _, _, .cons r p, i + 1, _, e => by simp at e; simpa using RdL.getL p e
theorem RdL.app : ∀ {l : List Value} {k : List PyData} {l' : List Value} {k' : List PyData}, RdL X h l k → RdL X h l' k' → RdL X h (l ++ l') (k ++ k')
  | _, _, _, _, .nil, q => q
  | _, _, _, _, .cons r p, q => .cons r (RdL.app p q)
theorem RdL.one {v : Value} {d : PyData} (r : Rd X h v d) : RdL X h [v] [d] := .cons r .nil
theorem RdL.take : ∀ {l : List Value} {k : List PyData}, RdL X h l k → ∀ n, RdL X h (l.take n) (k.take n)
  | _, _, .nil, n => by simp; exact .nil
  | _, _, .cons r p, 0 => by simp; exact .nil
  | _, _, .cons r p, n + 1 => by simpa using .cons r (RdL.take p n)
theorem RdL.drop : ∀ {l : List Value} {k : List PyData}, RdL X h l k → ∀ n, RdL X h (l.drop n) (k.drop n)
  | _, _, .nil, n => by simp; exact .nil
  | _, _, .cons r p, 0 => by simpa using .cons r p
  | _, _, .cons r p, n + 1 => by simpa using RdL.drop p n
theorem RdL.mem : ∀ {l : List Value} {k : List PyData}, RdL X h l k → ∀ {a : Value}, a ∈ l → ∃ b, b ∈ k ∧ Rd X h a b
  | _, _, .cons r p, a, e => by
    rcases List.mem_cons.mp e with rfl | e
    · exact ⟨_, .head _, r⟩
    · obtain ⟨b, m, q⟩ := RdL.mem p e; exact ⟨b, .tail _ m, q⟩
theorem Rd.int_inv {v : Value} {i : Int} (r : Rd X h v (.int i)) : ∃ t, v = .int i t := by cases r; exact ⟨_, rfl⟩
theorem Rd.bool_inv {v : Value} {b : Bool} (r : Rd X h v (.bool b)) : v = .bool b := by cases r; rfl
theorem Rd.none_inv {v : Value} (r : Rd X h v .none) : v = .none := by cases r; rfl
theorem Rd.str_inv {v : Value} {x : Str} (r : Rd X h v (.str x)) : (∃ t, v = .str x t) ∧ PyData.strOk x = true := by cases r; exact ⟨⟨_, rfl⟩, by assumption⟩
theorem Rd.list_inv {v : Value} {ds : List PyData} (r : Rd X h v (.list ds)) : ∃ a vs n, v = .ref a ∧ ¬ X a ∧ h.get? a = some { cls := .type "list", data := .seq vs n } ∧ RdL X h vs.toList ds := by
  cases r with
  | list n e r => exact ⟨_, _, _, rfl, n, e, r⟩
theorem Rd.tuple_inv {v : Value} {ds : List PyData} (r : Rd X h v (.tuple ds)) : ∃ a vs n, v = .ref a ∧ ¬ X a ∧ h.get? a = some { cls := .type "tuple", data := .seq vs n } ∧ RdL X h vs.toList ds := by
  cases r with
  | tuple n e r => exact ⟨_, _, _, rfl, n, e, r⟩
theorem Rd.up {h' : Heap} {v : Value} {d : PyData} (r : Rd X h v d) (u : ∀ b o, ¬ X b → h.get? b = some o → h'.get? b = some o) : Rd X h' v d := r.step u fun _ _ n _ => n
theorem Rd.weak {X' : Addr → Prop} {v : Value} {d : PyData} (r : Rd X h v d) (u : ∀ b, X' b → X b) : Rd X' h v d := r.step (fun _ _ _ e => e) fun b _ n _ x => n (u b x)
theorem RdL.up {h' : Heap} {v : List Value} {d : List PyData} (r : RdL X h v d) (u : ∀ b o, ¬ X b → h.get? b = some o → h'.get? b = some o) : RdL X h' v d := r.step u fun _ _ n _ => n
end

/-! the ground: what stands below the call -/
structure Tb where
  c : Addr
  P : Addr
  pos : Pos
  qual : Str
structure Gn where
  B : Heap
  tb : List Tb
  C : Addr
  mg : Str → Option Value
  mb : Str → Option Value
noncomputable def Gn.jk (G : Gn) (a : Addr) : Prop := ∃ t, t ∈ G.tb ∧ a = t.P
structure TbOk (G : Gn) (h : Heap) (t : Tb) : Prop where
  fresh : G.B.get? t.P = none
  hd : CodeHd G.B t.c t.P
  tab : ∃ ps, h.get? t.P = some (tabObj ps) ∧ TriplesOk ps.toList ∧ (codeAmong t.pos ps.toList = none ∨
    ∃ c' o vs tk, codeAmong t.pos ps.toList = some (.ref c') ∧ h.get? c' = some o ∧ o.data = .fields vs ∧ vs[1]? = some (.str t.qual tk) ∧ ¬ G.jk c')
structure Kp (B h : Heap) : Prop where
  keep : ∀ b o, B.get? b = some o → h.get? b = some o
structure Gd (G : Gn) (h : Heap) : Prop where
  fr : Kp G.B h
  tb : ∀ t, t ∈ G.tb → TbOk G h t
theorem Gd.up {G : Gn} {h h' : Heap} (g : Gd G h) (u : ∀ b o, h.get? b = some o → h'.get? b = some o) : Gd G h' :=
  ⟨⟨fun b o e => u b o (g.fr.keep b o e)⟩, fun t ht => by
    obtain ⟨f, c, ps, e, tr, k⟩ := g.tb t ht
    refine ⟨f, c, ps, u _ _ e, tr, k.imp id ?_⟩
    rintro ⟨c', o, vs, tk, e1, e2, r⟩
    exact ⟨c', o, vs, tk, e1, u _ _ e2, r⟩⟩
noncomputable def NotCode (o : Obj) : Prop := ∀ vs x t, o.data = .fields vs → vs[1]? ≠ some (.str x t)
theorem NotCode.of {o : Obj} (h : ∀ vs, o.data ≠ .fields vs) : NotCode o := fun vs _ _ e => absurd e (h vs)
theorem Gd.but {G : Gn} {h h' : Heap} {a : Addr} (g : Gd G h) (hs : Heap.ExtBut a h h') (hB : G.B.get? a = none) (hj : ¬ G.jk a) {o : Obj} (ho : h.get? a = some o) (hf : NotCode o) : Gd G h' := by
  refine ⟨⟨fun b ob e => hs b ob (fun q => by rw [q, hB] at e; cases e) (g.fr.keep b ob e)⟩, fun t ht => ?_⟩
  obtain ⟨f, c, ps, e, tr, k⟩ := g.tb t ht
  refine ⟨f, c, ps, hs _ _ (fun q => hj ⟨t, ht, q.symm⟩) e, tr, k.imp id ?_⟩
  rintro ⟨c', oc, vs, tk, e1, e2, e3, r⟩
  refine ⟨c', oc, vs, tk, e1, hs _ _ (fun q => ?_) e2, e3, r⟩
  rw [q, ho] at e2
  cases e2
  exact hf _ _ _ e3 r.1

/-- a step that changes what W holds alone (and the junk) -/
structure QS (G : Gn) (W : Addr → Prop) (s s' : Shared) : Prop where
  same : ∃ h tk, s' = { s with heap := h, toks := tk }
  keep : ∀ b o, ¬ W b → ¬ G.jk b → s.heap.get? b = some o → s'.heap.get? b = some o
  live : ∀ b o, s.heap.get? b = some o → ∃ o', s'.heap.get? b = some o'
  gd : Gd G s.heap → Gd G s'.heap
noncomputable abbrev QQ (G : Gn) (s s' : Shared) : Prop := QS G (fun _ => False) s s'
section
variable {G : Gn} {W : Addr → Prop} {s s' s'' : Shared}
theorem QS.refl (s : Shared) : QS G W s s := ⟨⟨s.heap, s.toks, rfl⟩, fun _ _ _ _ e => e, fun _ o e => ⟨o, e⟩, id⟩
theorem QS.trans (k : QS G W s s') (k' : QS G W s' s'') : QS G W s s'' := by
  obtain ⟨⟨h, tk, rfl⟩, a, b, c⟩ := k
  obtain ⟨⟨h', tk', rfl⟩, a', b', c'⟩ := k'
  exact ⟨⟨h', tk', rfl⟩, fun x o n j e => a' x o n j (a x o n j e), fun x o e => let ⟨o', e'⟩ := b x o e; b' x o' e', fun g => c' (c g)⟩
theorem QS.weak {W' : Addr → Prop} (k : QS G W s s') (u : ∀ a, W a → W' a ∨ s.heap.get? a = none) : QS G W' s s' :=
  ⟨k.same, fun b o n j e => k.keep b o (fun w => (u b w).elim n fun q => by rw [q] at e; cases e) j e, k.live, k.gd⟩
theorem QQ.to (k : QQ G s s') : QS G W s s' := k.weak fun _ f => f.elim
theorem QS.up {h : Heap} {tk : Nat} (u : ∀ b o, s.heap.get? b = some o → h.get? b = some o) : QS G W s { s with heap := h, toks := tk } :=
  ⟨⟨h, tk, rfl⟩, fun b o _ _ e => u b o e, fun b o e => ⟨o, u b o e⟩, fun g => g.up u⟩
theorem QS.toks {tk : Nat} : QS G W s { s with toks := tk } := QS.up (h := s.heap) fun _ _ e => e
theorem QS.push (o : Obj) : QS G W s { s with heap := s.heap.push o } := QS.up (tk := s.toks) fun _ _ e => Heap.get?_push_of_some o e
theorem QS.but {h : Heap} {tk : Nat} {a : Addr} {o o' : Obj} (hs : Heap.ExtBut a s.heap h) (ho : s.heap.get? a = some o) (ho' : h.get? a = some o') (hB : G.B.get? a = none) (hj : ¬ G.jk a) (hf : NotCode o) (hw : W a) :
    QS G W s { s with heap := h, toks := tk } :=
  ⟨⟨h, tk, rfl⟩, fun b ob n _ e => hs b ob (fun q => n (q ▸ hw)) e, fun b ob e => by
    by_cases q : b = a
    · subst q; exact ⟨_, ho'⟩
    · exact ⟨_, hs b ob q e⟩, fun g => g.but hs hB hj ho hf⟩
end

/-- what is known of a value -/
inductive VD where
  | dat (d : PyData)
  | is (v : Value)
  | hdr (a : Addr)
  | emp

structure Aok (A : Around) (n : Nat) : Prop where
  hh : A.handled = none
  dp : A.depth + n < recursionLimit
  un : A.units + 16 * n + 200 < cLine
theorem Aok.deeper {A : Around} {n : Nat} (a : Aok A (n + 1)) (env : Env) : Aok (A.deeper env) n := ⟨a.hh, by have := a.dp; show A.depth + 1 + n < _; lia, by have := a.un; show A.units + 3 + 16 * n + 200 < _; lia⟩
theorem Aok.le {A : Around} {n k : Nat} (a : Aok A n) (h : k ≤ n) : Aok A k := ⟨a.hh, by have := a.dp; lia, by have := a.un; lia⟩
theorem Aok.in1 {A : Around} {n : Nat} (a : Aok A (n + 1)) : Aok A.in1 n := ⟨a.hh, by have := a.dp; show A.depth + n < _; lia, by have := a.un; show A.units + 1 + 16 * n + 200 < _; lia⟩
end Mine
set_option maxRecDepth 100000
namespace Mine
open PySem PySem.W PyProof.Rows

/-- a Headers object whose list lies at a -/
noncomputable def HdrAt (G : Gn) (X : Addr → Prop) (h : Heap) (v : Value) (a : Addr) : Prop :=
  ∃ x D k t n, v = .ref x ∧ ¬ X x ∧ ¬ X D ∧ InstAt h x (instObj G.C D) G.C (some (dictOf [⟨k, .str "_headers" t, .ref a⟩] n))
noncomputable def VD.At (G : Gn) (X : Addr → Prop) (h : Heap) (v : Value) : VD → Prop
  | .dat d => Rd X h v d
  | .is u => v = u
  | .hdr a => HdrAt G X h v a
  | .emp => ∃ d, v = .ref d ∧ ¬ X d ∧ (d == sysModules) = false ∧ h.get? d = some { cls := .type "dict", data := .dict #[] }
theorem HdrAt.step {G : Gn} {X X' : Addr → Prop} {h h' : Heap} {v : Value} {a : Addr} (hk : ∀ b o, ¬ X b → h.get? b = some o → h'.get? b = some o) (hx : ∀ b o, ¬ X b → h.get? b = some o → ¬ X' b) (r : HdrAt G X h v a) : HdrAt G X' h' v a := by
  obtain ⟨x, D, k, t, n, e, hx1, hD, ⟨i1, i2, i3, i4⟩⟩ := r
  exact ⟨x, D, k, t, n, e, hx _ _ hx1 i1, hx _ _ hD i4, ⟨hk _ _ hx1 i1, i2, i3, hk _ _ hD i4⟩⟩
theorem VD.At.step {G : Gn} {X X' : Addr → Prop} {h h' : Heap} {v : Value} (hk : ∀ b o, ¬ X b → h.get? b = some o → h'.get? b = some o) (hx : ∀ b o, ¬ X b → h.get? b = some o → ¬ X' b) {x : VD} (r : x.At G X h v) : x.At G X' h' v := by
  cases x with
  | dat d => exact Rd.step hk hx r
  | is u => exact r
  | hdr a => exact HdrAt.step hk hx r
  | emp => obtain ⟨d, e, n, m, o⟩ := r; exact ⟨d, e, hx _ _ n o, m, hk _ _ n o⟩
theorem VD.At.weak {G : Gn} {X X' : Addr → Prop} {h : Heap} {v : Value} {x : VD} (r : x.At G X h v) (u : ∀ b, X' b → X b) : x.At G X' h v := r.step (fun _ _ _ e => e) fun b _ n _ q => n (u b q)

/-- what a mutable object holds -/
inductive Cell where
  | lst (ds : List PyData)
  | tab (prog : Program) (w : World) (n : Nat) (kvs : List (Str × PyData))
  | frm (o : Obj)
  | obj (o : Obj)
/-- a dict keyed by strs -/
noncomputable def TabAt (prog : Program) (w : World) (X : Addr → Prop) (h : Heap) (a : Addr) (n : Nat) (kvs : List (Str × PyData)) : Prop :=
  (a == sysModules) = false ∧ ∃ vs : List (Str × Value), h.DictOf (PySem.strKind prog w) a vs ∧ vs.length ≤ n ∧ ∀ k d, kvs.lookup k = some d → ∃ v, valueAt vs k = some v ∧ Rd X h v d
noncomputable def Cell.At (X : Addr → Prop) (h : Heap) (a : Addr) : Cell → Prop
  | .lst ds => ∃ vs n, h.get? a = some { cls := .type "list", data := .seq vs n } ∧ RdL X h vs.toList ds
  | .tab prog w n kvs => TabAt prog w X h a n kvs
  | .frm o => (∃ sl, h.get? a = some { o with slots := sl }) ∧ ∃ es ep, o.data = .dict es ep
  | .obj o => h.get? a = some o ∧ ∀ vs, o.data ≠ .fields vs
theorem Cell.At.step {X X' : Addr → Prop} {h h' : Heap} {a : Addr} (hk : ∀ b o, ¬ X b → h.get? b = some o → h'.get? b = some o) (hx : ∀ b o, ¬ X b → h.get? b = some o → ¬ X' b) (ha : ∀ o, h.get? a = some o → h'.get? a = some o) {c : Cell} (r : c.At X h a) : c.At X' h' a := by
  cases c with
  | lst ds => obtain ⟨vs, n, e, p⟩ := r; exact ⟨vs, n, ha _ e, p.step hk hx⟩
  | tab prog w n kvs =>
    obtain ⟨q, vs, ⟨o, es, ep, ho, rest⟩, hl, f⟩ := r
    exact ⟨q, vs, ⟨o, es, ep, ha _ ho, rest⟩, hl, fun k d e => let ⟨v, e1, r⟩ := f k d e; ⟨v, e1, r.step hk hx⟩⟩
  | frm o => obtain ⟨⟨sl, e⟩, q⟩ := r; exact ⟨⟨sl, ha _ e⟩, q⟩
  | obj o => exact ⟨ha _ r.1, r.2⟩
theorem Cell.At.notFields {X : Addr → Prop} {h : Heap} {a : Addr} {c : Cell} (r : c.At X h a) : ∃ o, h.get? a = some o ∧ ∀ vs, o.data ≠ .fields vs := by
  cases c with
  | lst ds => obtain ⟨vs, n, e, p⟩ := r; exact ⟨_, e, fun _ => nofun⟩
  | tab prog w n kvs => obtain ⟨q, vs, ⟨o, es, ep, ho, hx, hd, rest⟩, hl, f⟩ := r; exact ⟨_, ho, fun _ => by rw [hd]; nofun⟩
  | frm o => obtain ⟨⟨sl, e⟩, es, ep, q⟩ := r; exact ⟨_, e, fun vs => by show o.data ≠ _; rw [q]; nofun⟩
  | obj o => exact ⟨_, r.1, r.2⟩

noncomputable def NameAt (env : Env) (h : Heap) (x : Str) (v : Value) : Prop :=
  (env.kindOf x = some .local ∧ ∃ m, h.Ns env.locals m ∧ m x = some v) ∨
  ((env.kindOf x = some .cell ∨ (env.kindOf x = some .free ∧ (x == ("__classdict__" : Str)) = false)) ∧ ∃ c, env.cells.lookup x = some c ∧ h.IsCell c (some v))

noncomputable def Fx (env : Env) (a : Addr) : Prop := a = env.locals ∨ ∃ n, env.cells.lookup n = some a
structure FrOk (env : Env) (h : Heap) : Prop where
  kind : env.scope.kind = .function
  gl : env.globals = mainGlobals
  bu : env.builtins = builtinsNs
  ns : ∃ m, h.Ns env.locals m
  cell : ∀ n c, env.cells.lookup n = some c → ∃ v, h.IsCell c v
  apart : ∀ n n' c, env.cells.lookup n = some c → env.cells.lookup n' = some c → n = n'

noncomputable abbrev Or2 (X W : Addr → Prop) : Addr → Prop := fun a => X a ∨ W a

/-- the state of a call -/
structure In (G : Gn) (X W : Addr → Prop) (env : Env) (σ : List (Str × VD)) (cs : List (Addr × Cell)) (s : Shared) : Prop where
  gd : Gd G s.heap
  fr : FrOk env s.heap
  fx : ∀ a, Fx env a → W a
  jk : ∀ a, G.jk a → X a
  hx : ∀ a, X a ∨ W a → ∃ o, s.heap.get? a = some o
  wb : ∀ a, W a → G.B.get? a = none ∧ ¬ G.jk a
  nm : ∀ x d, σ.lookup x = some d → ∃ v, NameAt env s.heap x v ∧ d.At G (Or2 X W) s.heap v
  ce : ∀ p, p ∈ cs → (Or2 X W p.1 ∧ ¬ G.jk p.1) ∧ ¬ Fx env p.1 ∧ p.2.At (Or2 X W) s.heap p.1
  ap : (cs.map (·.1)).Nodup

section
variable {G : Gn} {X W : Addr → Prop} {env : Env} {σ σ' : List (Str × VD)} {cs cs' : List (Addr × Cell)} {s s' : Shared}
theorem NameAt.up {h h' : Heap} {x : Str} {v : Value} (n : NameAt env h x v) (hk : ∀ b o, Fx env b → h.get? b = some o → h'.get? b = some o) : NameAt env h' x v := by
  rcases n with ⟨a, m, n, e⟩ | ⟨a, c, l, o, ho, d⟩
  · exact .inl ⟨a, m, n.at' fun o q => hk _ o (.inl rfl) q, e⟩
  · exact .inr ⟨a, c, l, o, hk _ _ (.inr ⟨_, l⟩) ho, d⟩
theorem FrOk.up {h h' : Heap} (f : FrOk env h) (hk : ∀ b o, Fx env b → h.get? b = some o → h'.get? b = some o) : FrOk env h' :=
  ⟨f.kind, f.gl, f.bu, let ⟨m, n⟩ := f.ns; ⟨m, n.at' fun o q => hk _ o (.inl rfl) q⟩, fun n c e => let ⟨v, o, ho, d⟩ := f.cell n c e; ⟨v, o, hk _ _ (.inr ⟨n, e⟩) ho, d⟩, f.apart⟩
theorem In.keeps (i : In G X W env σ cs s) (k : QQ G s s') : ∀ b o, (¬ (X b ∨ W b) ∨ W b ∨ ¬ G.jk b) → s.heap.get? b = some o → s'.heap.get? b = some o := by
  intro b o h e
  refine k.keep b o id (fun j => ?_) e
  rcases h with h | h | h
  · exact h (.inl (i.jk b j))
  · exact (i.wb b h).2 j
  · exact h j
theorem In.quiet (i : In G X W env σ cs s) (k : QQ G s s') : In G X W env σ cs s' := by
  have kk := i.keeps k
  have kx : ∀ b o, ¬ Or2 X W b → s.heap.get? b = some o → s'.heap.get? b = some o := fun b o n e => kk b o (.inl n) e
  have kw : ∀ b o, W b → s.heap.get? b = some o → s'.heap.get? b = some o := fun b o n e => kk b o (.inr (.inl n)) e
  refine ⟨k.gd i.gd, i.fr.up fun b o f e => kw b o (i.fx b f) e, i.fx, i.jk, fun a h => let ⟨o, e⟩ := i.hx a h; k.live a o e, i.wb, fun x d e => ?_, fun p hp => ?_, i.ap⟩
  · obtain ⟨v, n, r⟩ := i.nm x d e
    exact ⟨v, n.up fun b o f e => kw b o (i.fx b f) e, r.step kx fun _ _ n _ => n⟩
  · obtain ⟨w, f, r⟩ := i.ce p hp
    exact ⟨w, f, r.step kx (fun _ _ n _ => n) fun o e => kk _ o (.inr (.inr w.2)) e⟩
theorem In.less (i : In G X W env σ cs s) (h : ∀ x d, σ'.lookup x = some d → σ.lookup x = some d) : In G X W env σ' cs s :=
  ⟨i.gd, i.fr, i.fx, i.jk, i.hx, i.wb, fun x d e => i.nm x d (h x d e), i.ce, i.ap⟩
theorem In.lessC (i : In G X W env σ cs s) (h : cs'.Sublist cs) : In G X W env σ cs' s :=
  ⟨i.gd, i.fr, i.fx, i.jk, i.hx, i.wb, i.nm, fun p hp => i.ce p (h.subset hp), (h.map _).nodup i.ap⟩
end

/-- what a step of an operation may lean on -/
structure Ok (G : Gn) (X : Addr → Prop) (s : Shared) : Prop where
  gd : Gd G s.heap
  jk : ∀ a, G.jk a → X a
  hx : ∀ a, X a → ∃ o, s.heap.get? a = some o
theorem In.ok {G : Gn} {X W : Addr → Prop} {env : Env} {σ : List (Str × VD)} {cs : List (Addr × Cell)} {s : Shared} (i : In G X W env σ cs s) : Ok G (Or2 X W) s := ⟨i.gd, fun a j => .inl (i.jk a j), i.hx⟩
theorem Ok.quiet {G : Gn} {X : Addr → Prop} {s s' : Shared} (i : Ok G X s) (k : QQ G s s') : Ok G X s' := ⟨k.gd i.gd, i.jk, fun a x => let ⟨_, e⟩ := i.hx a x; k.live _ _ e⟩
theorem VD.At.quiet {G : Gn} {X : Addr → Prop} {s s' : Shared} {v : Value} {x : VD} (r : x.At G X s.heap v) (i : Ok G X s) (k : QQ G s s') : x.At G X s'.heap v :=
  r.step (fun b o n e => k.keep b o id (fun j => n (i.jk b j)) e) fun _ _ n _ => n
theorem Ok.fresh {G : Gn} {X : Addr → Prop} {s : Shared} (i : Ok G X s) : ¬ X s.heap.objs.size := fun x => by
  obtain ⟨o, e⟩ := i.hx _ x
  exact absurd (Heap.lt_size e) (Nat.lt_irrefl _)

section
variable {prog : Program} {w : World} {A : Around} {G : Gn} {X W : Addr → Prop} {env : Env} {σ : List (Str × VD)} {cs : List (Addr × Cell)}
/-- a quiet tree -/
noncomputable def PV (prog : Program) (w : World) (A : Around) (G : Gn) (X W : Addr → Prop) (env : Env) (σ : List (Str × VD)) (cs : List (Addr × Cell)) (t : Sem Value) (x : VD) : Prop :=
  ∀ s, In G X W env σ cs s → wpAny (model prog w) A t (fun v s' => QQ G s s' ∧ x.At G (Or2 X W) s'.heap v) FF s
structure Ev (prog : Program) (w : World) (A : Around) (G : Gn) (X W : Addr → Prop) (env : Env) (σ : List (Str × VD)) (cs : List (Addr × Cell)) (e : Expr) (x : VD) : Prop where
  run : PV prog w A G X W env σ cs (eval e env) x
structure Tr (prog : Program) (w : World) (A : Around) (G : Gn) (X W : Addr → Prop) (env : Env) (σ : List (Str × VD)) (cs : List (Addr × Cell)) (e : Expr) (b : Bool) : Prop where
  run :
  ∀ s, In G X W env σ cs s → wpAny (model prog w) A (isTrue e env (eval e env)) (fun r s' => QQ G s s' ∧ r = b) FF s
/-- an operation on two values -/
noncomputable def B2 (prog : Program) (w : World) (A : Around) (G : Gn) (X : Addr → Prop) (f : Value → Value → Sem Value) (x y z : VD) : Prop :=
  ∀ s a b, Ok G X s → x.At G X s.heap a → y.At G X s.heap b → wpAny (model prog w) A (f a b) (fun v s' => QQ G s s' ∧ z.At G X s'.heap v) FF s
noncomputable def B1 (prog : Program) (w : World) (A : Around) (G : Gn) (X : Addr → Prop) (f : Value → Sem Value) (x z : VD) : Prop :=
  ∀ s a, Ok G X s → x.At G X s.heap a → wpAny (model prog w) A (f a) (fun v s' => QQ G s s' ∧ z.At G X s'.heap v) FF s
theorem wff {α : Type} {M : Model} {A : Around} {t : Sem α} {Q Q' : α → Shared → Prop} {E : Value → Shared → Prop} {s : Shared} (h : wpAny M A t Q FF s) (hq : ∀ a s, Q a s → Q' a s) : wpAny M A t Q' E s := wpAny_mono h hq fun _ _ f => f.elim

theorem PV.two {t u : Sem Value} {f : Value → Value → Sem Value} {x y z : VD} {s : Shared} {E : Value → Shared → Prop} (h1 : PV prog w A G X W env σ cs t x) (h2 : PV prog w A G X W env σ cs u y) (h : B2 prog w A G (Or2 X W) f x y z) (i : In G X W env σ cs s) :
    wpAny (model prog w) A t (fun a s₁ => wpAny (model prog w) A u (fun b s₂ => wpAny (model prog w) A (f a b) (fun v s' => QQ G s s' ∧ z.At G (Or2 X W) s'.heap v) E s₂) E s₁) E s := by
  refine wff (h1 s i) fun a s₁ ⟨k1, r1⟩ => ?_
  refine wff (h2 s₁ (i.quiet k1)) fun b s₂ ⟨k2, r2⟩ => ?_
  have o1 := (i.quiet k1).ok
  exact wff (h s₂ a b (o1.quiet k2) (r1.quiet o1 k2) r2) fun v s₃ ⟨k3, r3⟩ => ⟨(k1.trans k2).trans k3, r3⟩
theorem PV.one {t : Sem Value} {f : Value → Sem Value} {x z : VD} {s : Shared} {E : Value → Shared → Prop} (h1 : PV prog w A G X W env σ cs t x) (h : B1 prog w A G (Or2 X W) f x z) (i : In G X W env σ cs s) :
    wpAny (model prog w) A t (fun a s₁ => wpAny (model prog w) A (f a) (fun v s' => QQ G s s' ∧ z.At G (Or2 X W) s'.heap v) E s₁) E s :=
  wff (h1 s i) fun a s₁ ⟨k1, r1⟩ => wff (h s₁ a (i.quiet k1).ok r1) fun _ _ ⟨k2, r2⟩ => ⟨k1.trans k2, r2⟩

theorem Ev.bin {l r : Expr} {op : Operator} {pos : Pos} {x y z : VD} (h1 : Ev prog w A G X W env σ cs l x) (h2 : Ev prog w A G X W env σ cs r y) (h : B2 prog w A G (Or2 X W) (binaryOp op) x y z) : Ev prog w A G X W env σ cs (.BinOp l op r pos) z :=
  ⟨fun _ i => wpAny_BinOp (PV.two h1.run h2.run h i)⟩
theorem Ev.cmp {l r : Expr} {op : CmpOp} {pos : Pos} {x y z : VD} (h1 : Ev prog w A G X W env σ cs l x) (h2 : Ev prog w A G X W env σ cs r y) (h : B2 prog w A G (Or2 X W) (compareOp op) x y z) (hm : behindInMarks op r = false := by with_unfolding_all rfl) : Ev prog w A G X W env σ cs (.Compare l [op] [r] pos) z :=
  ⟨fun _ i => wpAny_Compare1 (PV.two h1.run h2.run h i) hm⟩
theorem Tr.cmp {l r : Expr} {op : CmpOp} {pos : Pos} {x y : VD} {b : Bool} (h1 : Ev prog w A G X W env σ cs l x) (h2 : Ev prog w A G X W env σ cs r y) (h : B2 prog w A G (Or2 X W) (compareOp op) x y (.dat (.bool b))) (hm : behindInMarks op r = false := by with_unfolding_all rfl) : Tr prog w A G X W env σ cs (.Compare l [op] [r] pos) b := by
  refine ⟨fun s i => ?_⟩
  refine wpAny_isTrue_Compare1 ?_ hm
  refine wff (PV.two (E := FF) h1.run h2.run h i) (fun a s₁ h₁ => wff h₁ (fun c s₂ h₂ => wff h₂ (fun v s₃ h₃ => ?_)))
  have := Rd.bool_inv h₃.2
  subst this
  exact wpAny_truthy_bool ⟨h₃.1, rfl⟩

theorem Ev.const_int {i : Int} {k : Nat} {pos : Pos} : Ev prog w A G X W env σ cs (.Constant (.int i) k pos) (.dat (.int i)) := ⟨fun _ _ => wpAny_Constant_int ⟨QS.toks, .int _ _⟩⟩
theorem Ev.const_str {x : Str} {k : Nat} {pos : Pos} (hx : PyData.strOk x = true := by decide +kernel) : Ev prog w A G X W env σ cs (.Constant (.str x) k pos) (.dat (.str x)) := ⟨fun _ _ => wpAny_Constant_str ⟨QS.toks, .str _ _ hx⟩⟩
theorem Ev.const_none {k : Nat} {pos : Pos} : Ev prog w A G X W env σ cs (.Constant .none k pos) (.dat .none) := ⟨fun s _ => wpAny_Constant_none ⟨QS.refl s, .none⟩⟩
theorem Ev.const_bool {b : Bool} {k : Nat} {pos : Pos} : Ev prog w A G X W env σ cs (.Constant (.bool b) k pos) (.dat (.bool b)) := ⟨fun s _ => wpAny_Constant_bool ⟨QS.refl s, .bool b⟩⟩

theorem Ev.name {x : Str} {pos : Pos} {d : VD} (hl : σ.lookup x = some d) (hd : (x == ("__debug__" : Str)) = false := by decide) : Ev prog w A G X W env σ cs (.Name x pos) d := by
  refine ⟨fun s i => ?_⟩
  obtain ⟨v, n, r⟩ := i.nm x d hl
  refine wpAny_Name ?_ hd
  rcases n with ⟨a, m, n, e⟩ | ⟨a | ⟨a, hn⟩, c, l, q⟩
  · exact wpAny_loadName_local i.fr.kind a n e ⟨QS.refl s, r⟩
  · exact wpAny_loadName_cell i.fr.kind a l q ⟨QS.refl s, r⟩
  · exact wpAny_loadName_free i.fr.kind a l q ⟨QS.refl s, r⟩ hn

/-- what stands fast of the ground -/
structure GOk (G : Gn) : Prop where
  g : G.B.Ns mainGlobals G.mg
  b : G.B.Ns builtinsNs G.mb
  nolimit : G.B.NoLimit
theorem Ev.global {x : Str} {pos : Pos} {v : Value} (hG : GOk G) (hv : G.mg x = some v) (hx : env.kindOf x = some .globalImplicit) (hd : (x == ("__debug__" : Str)) = false := by decide) : Ev prog w A G X W env σ cs (.Name x pos) (.is v) := by
  refine ⟨fun s i => ?_⟩
  refine Calls.Name_function_global i.fr.kind hx (Calls.loadGlobal_global ?_ hv ⟨QS.refl s, rfl⟩) hd
  rw [i.fr.gl]
  exact hG.g.keeps i.gd.fr.keep
theorem Ev.builtin {x : Str} {pos : Pos} {v : Value} (hG : GOk G) (hn : G.mg x = none) (hv : G.mb x = some v) (hx : env.kindOf x = some .globalImplicit) (hd : (x == ("__debug__" : Str)) = false := by decide) : Ev prog w A G X W env σ cs (.Name x pos) (.is v) := by
  refine ⟨fun s i => ?_⟩
  refine Calls.Name_function_global i.fr.kind hx (Calls.loadGlobal_builtin ?_ hn ?_ hv ⟨QS.refl s, rfl⟩) hd
  · rw [i.fr.gl]; exact hG.g.keeps i.gd.fr.keep
  · rw [i.fr.bu]; exact hG.b.keeps i.gd.fr.keep
end
end Mine
set_option maxRecDepth 100000
namespace Mine
open PySem PySem.W PyProof.Rows

section
variable {prog : Program} {w : World} {A : Around} {G : Gn} {X W : Addr → Prop} {env : Env} {σ : List (Str × VD)} {cs : List (Addr × Cell)}

noncomputable abbrev I (i : Int) : VD := .dat (.int i)
noncomputable abbrev Bo (b : Bool) : VD := .dat (.bool b)
noncomputable abbrev S (x : Str) : VD := .dat (.str x)

theorem Rd.size {X : Addr → Prop} {h : Heap} {vs : Array Value} {ds : List PyData} (r : RdL X h vs.toList ds) : vs.size = ds.length := by rw [← r.len]; simp

/-! ints -/
theorem addI {a b : Int} : B2 prog w A G X (binaryOp .Add) (I a) (I b) (I (a + b)) := by
  intro s v u _ hv hu
  obtain ⟨t, rfl⟩ := Rd.int_inv hv; obtain ⟨t', rfl⟩ := Rd.int_inv hu
  exact add_int ⟨QS.toks, .int _ _⟩
theorem modI {a b : Int} (hb : b ≠ 0) : B2 prog w A G X (binaryOp .Mod) (I a) (I b) (I (a.fmod b)) := by
  intro s v u _ hv hu
  obtain ⟨t, rfl⟩ := Rd.int_inv hv; obtain ⟨t', rfl⟩ := Rd.int_inv hu
  exact mod_int' hb ⟨QS.toks, .int _ _⟩
theorem divI {a b : Int} (hb : b ≠ 0) (hp : Builtin.divisionGoesByPylong a b = false) : B2 prog w A G X (binaryOp .FloorDiv) (I a) (I b) (I (a.fdiv b)) := by
  intro s v u _ hv hu
  obtain ⟨t, rfl⟩ := Rd.int_inv hv; obtain ⟨t', rfl⟩ := Rd.int_inv hu
  exact floordiv_int hb ⟨QS.toks, .int _ _⟩ (.inl hp)
theorem powI {a b : Int} (hb : 0 ≤ b) (hs : (Builtin.Int.intBits a : Int) * b ≤ 2 ^ 27) : B2 prog w A G X (binaryOp .Pow) (I a) (I b) (I (a ^ b.toNat)) := by
  intro s v u _ hv hu
  obtain ⟨t, rfl⟩ := Rd.int_inv hv; obtain ⟨t', rfl⟩ := Rd.int_inv hu
  exact pow_int hb hs ⟨QS.toks, .int _ _⟩
theorem ltI {a b : Int} : B2 prog w A G X (compareOp .Lt) (I a) (I b) (Bo (decide (a < b))) := by
  intro s v u _ hv hu
  obtain ⟨t, rfl⟩ := Rd.int_inv hv; obtain ⟨t', rfl⟩ := Rd.int_inv hu
  exact lt_int ⟨QS.refl _, .bool _⟩
theorem leI {a b : Int} : B2 prog w A G X (compareOp .LtE) (I a) (I b) (Bo (decide (a ≤ b))) := by
  intro s v u _ hv hu
  obtain ⟨t, rfl⟩ := Rd.int_inv hv; obtain ⟨t', rfl⟩ := Rd.int_inv hu
  exact le_int ⟨QS.refl _, .bool _⟩
theorem geI {a b : Int} : B2 prog w A G X (compareOp .GtE) (I a) (I b) (Bo (decide (a ≥ b))) := by
  intro s v u _ hv hu
  obtain ⟨t, rfl⟩ := Rd.int_inv hv; obtain ⟨t', rfl⟩ := Rd.int_inv hu
  exact ge_int ⟨QS.refl _, .bool _⟩
theorem negI {a : Int} : B1 prog w A G X (unaryOp .USub) (I a) (I (-a)) := by
  intro s v _ hv
  obtain ⟨t, rfl⟩ := Rd.int_inv hv
  exact neg_int ⟨QS.toks, .int _ _⟩

/-! data compared -/
theorem eqD {d e : PyData} (hu : A.units + min d.depth e.depth < cLine) : B2 prog w A G X (compareOp .Eq) (.dat d) (.dat e) (Bo (PyData.eqv d e)) := by
  intro s v u _ hv hu'
  obtain ⟨c, as, r⟩ := Rd.reads hv; obtain ⟨c', as', r'⟩ := Rd.reads hu'
  exact SeqAt.compareEq_reads r r' c c' hu ⟨QS.refl _, .bool _⟩
theorem neD {d e : PyData} (hu : A.units + min d.depth e.depth < cLine) : B2 prog w A G X (compareOp .NotEq) (.dat d) (.dat e) (Bo (!PyData.eqv d e)) := by
  intro s v u _ hv hu'
  obtain ⟨c, as, r⟩ := Rd.reads hv; obtain ⟨c', as', r'⟩ := Rd.reads hu'
  exact SeqAt.compareNe_reads r r' c c' hu ⟨QS.refl _, .bool _⟩
theorem inD {d : PyData} {es : List PyData} (hu : A.units + 1 + min (PyData.depthAll es) d.depth < cLine) : B2 prog w A G X (compareOp .In) (.dat d) (.dat (.list es)) (Bo (es.any fun y => PyData.eqv y d)) := by
  intro s v u _ hv hu'
  obtain ⟨c, as, r⟩ := Rd.reads hv; obtain ⟨c', as', r'⟩ := Rd.reads hu'
  exact SeqAt.in_list_reads r' r c' c hu ⟨QS.refl _, .bool _⟩
theorem notInD {d : PyData} {es : List PyData} (hu : A.units + 1 + min (PyData.depthAll es) d.depth < cLine) : B2 prog w A G X (compareOp .NotIn) (.dat d) (.dat (.list es)) (Bo (!es.any fun y => PyData.eqv y d)) := by
  intro s v u _ hv hu'
  obtain ⟨c, as, r⟩ := Rd.reads hv; obtain ⟨c', as', r'⟩ := Rd.reads hu'
  exact SeqAt.notIn_list_reads r' r c' c hu ⟨QS.refl _, .bool _⟩
theorem notInS {x y : Str} : B2 prog w A G X (compareOp .NotIn) (S y) (S x) (Bo (!Txt.contains x y)) := by
  intro s v u _ hv hu'
  obtain ⟨⟨t, rfl⟩, _⟩ := Rd.str_inv hv; obtain ⟨⟨t', rfl⟩, _⟩ := Rd.str_inv hu'
  exact SB.notContains ⟨QS.refl _, .bool _⟩
theorem isNoneD {d : PyData} : B2 prog w A G X (compareOp .Is) (.dat d) (.dat .none) (Bo (match d with | .none => true | _ => false)) := by
  intro s v u _ hv hu'
  have := Rd.none_inv hu'; subst this
  refine is_none ⟨QS.refl _, ?_⟩
  cases hv <;> exact .bool _
theorem isNotNoneD {d : PyData} : B2 prog w A G X (compareOp .IsNot) (.dat d) (.dat .none) (Bo (match d with | .none => false | _ => true)) := by
  intro s v u _ hv hu'
  have := Rd.none_inv hu'; subst this
  refine isNot_none ⟨QS.refl _, ?_⟩
  cases hv <;> exact .bool _

/-! strs -/
theorem strOk_append {x y : Str} (hx : PyData.strOk x = true) (hy : PyData.strOk y = true) : PyData.strOk (x ++ y) = true := by
  show (x.cps ++ y.cps).all _ = true
  rw [Array.all_append]
  exact Bool.and_eq_true_iff.mpr ⟨hx, hy⟩
theorem addS {x y : Str} (h : x.length + y.length ≤ sizeLine) : B2 prog w A G X (binaryOp .Add) (S x) (S y) (S (x ++ y)) := by
  intro s v u _ hv hu'
  obtain ⟨⟨t, rfl⟩, hx⟩ := Rd.str_inv hv; obtain ⟨⟨t', rfl⟩, hy⟩ := Rd.str_inv hu'
  exact SB.add (fun t' k => ⟨QS.toks, .str _ _ (strOk_append hx hy)⟩) h
theorem mulS {x : Str} {n : Int} (hok : MulOk x n) (ho : PyData.strOk (Txt.mul x n) = true) : B2 prog w A G X (binaryOp .Mult) (S x) (I n) (S (Txt.mul x n)) := by
  intro s v u _ hv hu'
  obtain ⟨⟨t, rfl⟩, hx⟩ := Rd.str_inv hv; obtain ⟨t', rfl⟩ := Rd.int_inv hu'
  exact SB.mul hok fun t' k => ⟨QS.toks, .str _ _ ho⟩

/-! lists -/
theorem addL {ds es : List PyData} (h : ds.length + es.length ≤ sizeLine) : B2 prog w A G X (binaryOp .Add) (.dat (.list ds)) (.dat (.list es)) (.dat (.list (ds ++ es))) := by
  intro s v u k hv hu'
  obtain ⟨a, vs, n, rfl, na, e, r⟩ := Rd.list_inv hv
  obtain ⟨b, us, m, rfl, nb, e', r'⟩ := Rd.list_inv hu'
  refine P.add_list e e' ⟨QS.push _, ?_⟩ (by rw [Rd.size r, Rd.size r']; exact h)
  have up : ∀ c o, ¬ X c → s.heap.get? c = some o → (s.heap.push { cls := .type "list", data := .seq (vs ++ us) }).get? c = some o := fun _ _ _ e => Heap.get?_push_of_some _ e
  exact .list k.fresh (Heap.get?_push_size _ rfl) (by rw [Array.toList_append]; exact (r.up up).app (r'.up up))

/-! compound expressions -/
theorem Ev.unary {e : Expr} {op : UnaryOp} {pos : Pos} {x z : VD} (h1 : Ev prog w A G X W env σ cs e x) (h : B1 prog w A G (Or2 X W) (unaryOp op) x z) : Ev prog w A G X W env σ cs (.UnaryOp op e pos) z :=
  ⟨fun _ i => wpAny_UnaryOp (PV.one h1.run h i)⟩
theorem Ev.ifExp {t b o : Expr} {pos : Pos} {c : Bool} {x y : VD} (ht : Tr prog w A G X W env σ cs t c) (h1 : c = true → Ev prog w A G X W env σ cs b x) (h2 : c = false → Ev prog w A G X W env σ cs o y) : Ev prog w A G X W env σ cs (.IfExp t b o pos) (if c then x else y) := by
  refine ⟨fun s i => ?_⟩
  refine wpAny_IfExp (wff (ht.run s i) fun r s' ⟨k, e⟩ => ?_)
  subst e
  cases r with
  | true => exact wff ((h1 rfl).run s' (i.quiet k)) fun v s'' ⟨k', r⟩ => ⟨k.trans k', r⟩
  | false => exact wff ((h2 rfl).run s' (i.quiet k)) fun v s'' ⟨k', r⟩ => ⟨k.trans k', r⟩
theorem Ev.conv {e : Expr} {x y : VD} (h : Ev prog w A G X W env σ cs e x) (q : x = y) : Ev prog w A G X W env σ cs e y := q ▸ h
theorem Tr.conv {e : Expr} {b c : Bool} (h : Tr prog w A G X W env σ cs e b) (q : b = c) : Tr prog w A G X W env σ cs e c := q ▸ h
theorem Tr.not {e : Expr} {pos : Pos} {b : Bool} (h : Tr prog w A G X W env σ cs e b) : Tr prog w A G X W env σ cs (.UnaryOp .Not e pos) (!b) :=
  ⟨fun s i => wpAny_isTrue_Not (wff (h.run s i) fun _ _ ⟨k, e⟩ => ⟨k, by rw [e]⟩)⟩
theorem Tr.and {x y : Expr} {pos : Pos} {a b : Bool} (h1 : Tr prog w A G X W env σ cs x a) (h2 : a = true → Tr prog w A G X W env σ cs y b) : Tr prog w A G X W env σ cs (.BoolOp .And [x, y] pos) (a && b) := by
  refine ⟨fun s i => ?_⟩
  refine wpAny_isTrue_BoolOp (wpAny_allTrue_And_cons (wff (h1.run s i) fun r s' ⟨k, e⟩ => ?_))
  subst e
  cases r with
  | false => exact ⟨k, rfl⟩
  | true => exact wpAny_allTrue_And_cons (wff ((h2 rfl).run s' (i.quiet k)) fun r s'' ⟨k', e⟩ => by
      subst e
      cases r with
      | false => exact ⟨k.trans k', rfl⟩
      | true => exact wpAny_allTrue_And_nil ⟨k.trans k', rfl⟩)
theorem Tr.or {x y : Expr} {pos : Pos} {a b : Bool} (h1 : Tr prog w A G X W env σ cs x a) (h2 : a = false → Tr prog w A G X W env σ cs y b) : Tr prog w A G X W env σ cs (.BoolOp .Or [x, y] pos) (a || b) := by
  refine ⟨fun s i => ?_⟩
  refine wpAny_isTrue_BoolOp (wpAny_allTrue_Or_cons (wff (h1.run s i) fun r s' ⟨k, e⟩ => ?_))
  subst e
  cases r with
  | true => exact ⟨k, rfl⟩
  | false => exact wpAny_allTrue_Or_cons (wff ((h2 rfl).run s' (i.quiet k)) fun r s'' ⟨k', e⟩ => by
      subst e
      cases r with
      | true => exact ⟨k.trans k', rfl⟩
      | false => exact wpAny_allTrue_Or_nil ⟨k.trans k', rfl⟩)

/-! many expressions -/
inductive AtL (G : Gn) (X : Addr → Prop) (h : Heap) : List Value → List VD → Prop
  | nil : AtL G X h [] []
  | cons {v : Value} {x : VD} {vs : List Value} {xs : List VD} : x.At G X h v → AtL G X h vs xs → AtL G X h (v :: vs) (x :: xs)
theorem AtL.quiet {s s' : Shared} (i : Ok G X s) (k : QQ G s s') : ∀ {vs : List Value} {xs : List VD}, AtL G X s.heap vs xs → AtL G X s'.heap vs xs
  | _, _, .nil => .nil
  | _, _, .cons r p => .cons (r.quiet i k) (AtL.quiet i k p)
theorem AtL.data {h : Heap} : ∀ {vs : List Value} {ds : List PyData}, AtL G X h vs (ds.map VD.dat) → RdL X h vs ds
  | _, [], .nil => .nil
  | _, _ :: _, .cons r p => .cons r (AtL.data p)
theorem AtL.len {h : Heap} : ∀ {vs : List Value} {xs : List VD}, AtL G X h vs xs → vs.length = xs.length
  | _, _, .nil => rfl
  | _, _, .cons r p => by simp [AtL.len p]
structure EvL (prog : Program) (w : World) (A : Around) (G : Gn) (X W : Addr → Prop) (env : Env) (σ : List (Str × VD)) (cs : List (Addr × Cell)) (es : List Expr) (xs : List VD) : Prop where
  run :
  ∀ pos s, In G X W env σ cs s → wpAny (model prog w) A (spliced (backTo pos (starEach es env))) (fun vs s' => QQ G s s' ∧ AtL G (Or2 X W) s'.heap vs xs) FF s
theorem EvL.nil : EvL prog w A G X W env σ cs [] [] := ⟨fun _ s _ => wpAny_items_nil ⟨QS.refl s, .nil⟩⟩
theorem EvL.cons {e : Expr} {es : List Expr} {x : VD} {xs : List VD} (h : Ev prog w A G X W env σ cs e x) (hs : EvL prog w A G X W env σ cs es xs) (he : starEach (e :: es) env = (false, eval e env) :: starEach es env := by rfl) : EvL prog w A G X W env σ cs (e :: es) (x :: xs) := by
  refine ⟨fun pos s i => ?_⟩
  refine wpAny_items_cons (wff (h.run s i) fun v s₁ ⟨k, r⟩ => wff (hs.run pos s₁ (i.quiet k)) fun vs s₂ ⟨k', p⟩ => ⟨k.trans k', .cons (r.quiet (i.quiet k).ok k') p⟩) he
theorem Ev.list {es : List Expr} {ds : List PyData} {pos : Pos} (h : EvL prog w A G X W env σ cs es (ds.map VD.dat)) (hl : ds.length ≤ sizeLine) : Ev prog w A G X W env σ cs (.List es pos) (.dat (.list ds)) := by
  refine ⟨fun s i => ?_⟩
  refine wpAny_List (wff (h.run pos s i) fun vs s₁ ⟨k, r⟩ => ⟨by rw [r.len, List.length_map]; exact hl, k.trans (QS.push _), ?_⟩)
  have up : ∀ c o, ¬ Or2 X W c → s₁.heap.get? c = some o → (s₁.heap.push { cls := .type "list", data := .seq vs.toArray }).get? c = some o := fun _ _ _ e => Heap.get?_push_of_some _ e
  exact .list (i.quiet k).ok.fresh (Heap.get?_push_size _ rfl) (r.data.up up)
theorem Ev.tuple {es : List Expr} {ds : List PyData} {n : Nat} {pos : Pos} (h : EvL prog w A G X W env σ cs es (ds.map VD.dat)) (hl : ds.length ≤ sizeLine) : Ev prog w A G X W env σ cs (.Tuple es n pos) (.dat (.tuple ds)) := by
  refine ⟨fun s i => ?_⟩
  refine wpAny_Tuple (wff (h.run pos s i) fun vs s₁ ⟨k, r⟩ => ⟨by rw [r.len, List.length_map]; exact hl, k.trans (QS.push _), ?_⟩)
  have up : ∀ c o, ¬ Or2 X W c → s₁.heap.get? c = some o → (s₁.heap.push { cls := .type "tuple", data := .seq vs.toArray }).get? c = some o := fun _ _ _ e => Heap.get?_push_of_some _ e
  exact .tuple (i.quiet k).ok.fresh (Heap.get?_push_size _ rfl) (r.data.up up)

/-! subscripts -/
/-- an item asked for, of a builtin kind -/
noncomputable def It (prog : Program) (w : World) (A : Around) (G : Gn) (X : Addr → Prop) (x y z : VD) : Prop :=
  ∀ s a b, Ok G X s → x.At G X s.heap a → y.At G X s.heap b → ItemOn (model prog w) A FF a b (fun v s' => QQ G s s' ∧ z.At G X s'.heap v) s
theorem Ev.sub {value slice : Expr} {pos : Pos} {x y z : VD} (h1 : Ev prog w A G X W env σ cs value x) (h2 : Ev prog w A G X W env σ cs slice y) (h : It prog w A G (Or2 X W) x y z)
    (hs : ∀ o i, subscripted slice false o i = operate [o, i] (getItem o i) := by intro _ _; rfl) : Ev prog w A G X W env σ cs (.Subscript value slice pos) z := by
  refine ⟨fun s i => ?_⟩
  refine Subscript_ (wff (h1.run s i) fun a s₁ ⟨k1, r1⟩ => wff (h2.run s₁ (i.quiet k1)) fun b s₂ ⟨k2, r2⟩ => ?_)
  have o1 := (i.quiet k1).ok
  obtain ⟨T, id, hl, hT, hg⟩ := h s₂ a b (o1.quiet k2) (r1.quiet o1 k2) r2
  unfold subscriptTail
  refine wpAny_bind ?_
  rw [getitemInPython_of_ne hT.not_modules]
  refine wpAny_bind (wpAny_specialOf hT hl ?_)
  have fin : wpAny (model prog w) A (subscripted slice false a b) (fun r s₃ => wpAny (model prog w) A (letTemporaryGo value a r >>= fun _ => pure r) (fun v s' => QQ G s s' ∧ z.At G (Or2 X W) s'.heap v) FF s₃) FF s₂ := by
    rw [hs]
    exact wpAny_operating (wff hg fun r s₃ ⟨k3, r3⟩ => wpAny_bind (wpAny_letTemporaryGo (wpAny_pure ⟨(k1.trans k2).trans k3, r3⟩)))
  first
    | exact wpAny_pure (wpAny_bind fin)
    | exact wpAny_bind (wpAny_pure (wpAny_bind fin))
    | exact wpAny_bind fin
theorem itL {ds : List PyData} {k : Int} {d : PyData} (h0 : 0 ≤ k) (hf : k < 2 ^ 63) (hd : ds[k.toNat]? = some d) : It prog w A G X (.dat (.list ds)) (I k) (.dat d) := by
  intro s a b _ ha hb
  obtain ⟨l, vs, n, rfl, nx, e, r⟩ := Rd.list_inv ha
  obtain ⟨t, rfl⟩ := Rd.int_inv hb
  obtain ⟨v, hv, rv⟩ := r.get hd
  exact ⟨"list", _, list_getitem_lookup, ⟨_, e, rfl⟩, wpAny_getItem_list ⟨_, e, rfl, _, rfl⟩ h0 hf (by simpa using hv) ⟨QS.refl _, rv⟩⟩
theorem itT {ds : List PyData} {k : Int} {j : Nat} {d : PyData} (h1 : -(2 ^ 63) ≤ k) (hf : k < 2 ^ 63) (hj : seqIndex? k ds.length = some j) (hd : ds[j]? = some d) : It prog w A G X (.dat (.tuple ds)) (I k) (.dat d) := by
  intro s a b _ ha hb
  obtain ⟨l, vs, n, rfl, nx, e, r⟩ := Rd.tuple_inv ha
  obtain ⟨t, rfl⟩ := Rd.int_inv hb
  obtain ⟨v, hv, rv⟩ := r.get hd
  exact ⟨"tuple", _, slot_tuple_getitem.lookup, ⟨_, e, rfl⟩, getItem_tuple ⟨_, e, rfl, _, rfl⟩ h1 hf (by rw [Rd.size r]; exact hj) (by simpa using hv) ⟨QS.refl _, rv⟩⟩
theorem itS {x : Str} {i : Int} (hr : fitsSsize i = true) (hin : (Txt.charAt x i).isSome = true) (ho : PyData.strOk (Txt.item x i) = true) : It prog w A G X (S x) (I i) (S (Txt.item x i)) := by
  intro s a b _ ha hb
  obtain ⟨⟨t, rfl⟩, _⟩ := Rd.str_inv ha
  obtain ⟨t, rfl⟩ := Rd.int_inv hb
  exact SB.item hr hin ⟨QS.toks, .str _ _ ho⟩

/-! slices -/
noncomputable def EvO (prog : Program) (w : World) (A : Around) (G : Gn) (X W : Addr → Prop) (env : Env) (σ : List (Str × VD)) (cs : List (Addr × Cell)) : Option Expr → Option Int → Prop
  | none, none => True
  | some e, some i => Ev prog w A G X W env σ cs e (I i)
  | _, _ => False
theorem EvO.run {e : Option Expr} {i : Option Int} (h : EvO prog w A G X W env σ cs e i) {s : Shared} (hi : In G X W env σ cs s) : wpAny (model prog w) A (evalPart e env) (fun v s' => QQ G s s' ∧ IsPart v i) FF s := by
  cases e with
  | none =>
    cases i with
    | none => rw [evalPart_none]; exact wpAny_pure ⟨QS.refl s, .none⟩
    | some i => exact h.elim
  | some e =>
    cases i with
    | none => exact h.elim
    | some i => rw [evalPart_some]; exact wff (Ev.run h s hi) fun v s' ⟨k, r⟩ => ⟨k, by obtain ⟨t, rfl⟩ := Rd.int_inv r; exact .int _ _⟩
noncomputable def pick (ds : List PyData) (lo hi : Option Int) : List PyData := (ds.drop (lo.elim 0 (clipAt ds.length))).take (hi.elim ds.length (clipAt ds.length) - lo.elim 0 (clipAt ds.length))
end
end Mine
set_option maxRecDepth 100000
namespace Mine
open PySem PySem.W PyProof.Rows

inductive FD where
  | next | brk | cont
  | ret (d : VD)
noncomputable def FD.At (G : Gn) (X : Addr → Prop) (h : Heap) : Flow → FD → Prop
  | .next, .next => True
  | .brk, .brk => True
  | .cont, .cont => True
  | .ret v, .ret d => d.At G X h v
  | _, _ => False
noncomputable abbrev Post := FD → (Addr → Prop) → List (Str × VD) → List (Addr × Cell) → Prop
noncomputable def Out (G : Gn) (X W : Addr → Prop) (env : Env) (s : Shared) (Q : Post) (f : Flow) (s' : Shared) : Prop :=
  ∃ fd W' σ' cs', Q fd W' σ' cs' ∧ In G X W' env σ' cs' s' ∧ QS G W s s' ∧ (∀ a, W' a → W a ∨ s.heap.get? a = none) ∧ fd.At G X s'.heap f

section
variable {prog : Program} {w : World} {A : Around} {G : Gn} {X W : Addr → Prop} {env : Env} {σ : List (Str × VD)} {cs : List (Addr × Cell)} {s s' : Shared}

theorem ns_cell {h : Heap} {a : Addr} {m : Str → Option Value} {v : Option Value} (n : h.Ns a m) (c : h.IsCell a v) : False := by
  obtain ⟨o, es, ep, e, d, _⟩ := n
  obtain ⟨o', e', d'⟩ := c
  rw [e] at e'; cases e'
  rw [d] at d'; cases d'
/-- a store under a name -/
theorem In.store' (i : In G X W env σ cs s) {x : Str} {v : Value} {d : VD} {E : Value → Shared → Prop} (hv : d.At G (Or2 X W) s.heap v) (hk : env.kindOf x = some .local ∨ (env.kindOf x = some .cell ∧ (env.cells.lookup x).isSome = true)) :
    wpAny (model prog w) A (storeName env x v) (fun _ s' => In G X W env ((x, d) :: σ) cs s' ∧ ∃ a, (env.kindOf x = some .local → a = env.locals) ∧ W a ∧ QS G (fun b => b = a) s s') E s := by
  have hp : (env.scope.kind == .class || (env.scope.kind == .module && env.locals != env.globals)) = false := by rw [i.fr.kind]; rfl
  have key : ∀ (a : Addr) (o o' : Obj) (h : Heap) (tk : Nat), Fx env a → s.heap.get? a = some o → (∀ vs, o.data ≠ .fields vs) → h.get? a = some o' → Heap.ExtBut a s.heap h →
      FrOk env h → (∀ y u, y ≠ x → NameAt env s.heap y u → NameAt env h y u) → NameAt env h x v → (env.kindOf x = some .local → a = env.locals) → In G X W env ((x, d) :: σ) cs { s with heap := h, toks := tk } ∧ ∃ a, (env.kindOf x = some .local → a = env.locals) ∧ W a ∧ QS G (fun b => b = a) s { s with heap := h, toks := tk } := by
    intro a o o' h tk fa ho hf ho' hs fr no nx hloc
    have wa := i.fx a fa
    have q : QS G (fun b => b = a) s { s with heap := h, toks := tk } := QS.but hs ho ho' (i.wb a wa).1 (i.wb a wa).2 (.of hf) rfl
    have kx : ∀ b o, ¬ Or2 X W b → s.heap.get? b = some o → h.get? b = some o := fun b o n e => hs b o (fun z => n (.inr (z ▸ wa))) e
    refine ⟨⟨q.gd i.gd, fr, i.fx, i.jk, fun b hb => let ⟨_, e⟩ := i.hx b hb; q.live _ _ e, i.wb, fun y e hl => ?_, fun p hp => ?_, i.ap⟩, a, hloc, wa, q⟩
    · rw [List.lookup_cons] at hl
      cases hb : y == x with
      | true =>
        rw [hb] at hl; cases hl
        rw [beq_iff_eq.mp hb]
        exact ⟨v, nx, hv.step kx fun _ _ n _ => n⟩
      | false =>
        rw [hb] at hl
        obtain ⟨u, nu, ru⟩ := i.nm y e hl
        exact ⟨u, no y u (by simpa using hb) nu, ru.step kx fun _ _ n _ => n⟩
    · obtain ⟨w1, f1, r1⟩ := i.ce p hp
      exact ⟨w1, f1, r1.step kx (fun _ _ n _ => n) fun o e => hs _ _ (fun z => f1 (by rw [z]; exact fa)) e⟩
  obtain ⟨m, hn⟩ := i.fr.ns
  rcases hk with hl | ⟨hl, hc⟩
  · obtain ⟨o, es, ep, ho, hd, r⟩ := id hn
    refine wpAny_storeName_local hl hn (fun h' hn' hs => ?_) hp
    obtain ⟨o', _, _, ho', _⟩ := id hn'
    refine key env.locals o o' h' _ (.inl rfl) ho (by rw [hd]; nofun) ho' hs.extBut ⟨i.fr.kind, i.fr.gl, i.fr.bu, ⟨_, hn'⟩, fun n c e => ?_, i.fr.apart⟩ (fun y u ne nu => ?_) (.inl ⟨hl, _, hn', by simp⟩) (fun _ => rfl)
    · obtain ⟨z, hz⟩ := i.fr.cell n c e
      exact ⟨z, hz.sameBut hs fun q => ns_cell hn (q ▸ hz)⟩
    · rcases nu with ⟨a, m', n, e⟩ | ⟨a, c, l, q⟩
      · refine .inl ⟨a, _, hn', ?_⟩
        rw [if_neg ne]
        obtain ⟨o1, es1, ep1, e1, d1, _, f1⟩ := n
        obtain ⟨o2, es2, ep2, e2, d2, _, f2⟩ := hn
        rw [e1] at e2; cases e2
        rw [d1] at d2; cases d2
        rw [← f2, f1, e]
      · exact .inr ⟨a, c, l, q.sameBut hs fun z => ns_cell hn (z ▸ q)⟩
  · obtain ⟨c, hc⟩ := Option.isSome_iff_exists.mp hc
    obtain ⟨v₀, hv₀⟩ := i.fr.cell x c hc
    obtain ⟨o, ho, hd⟩ := id hv₀
    refine wpAny_storeName_cell i.fr.kind hl hc hv₀ (fun h' hc' hs => ?_)
    obtain ⟨o', ho', _⟩ := id hc'
    have hne : env.locals ≠ c := fun q => ns_cell hn (q ▸ hv₀)
    have hn' : h'.Ns env.locals m := hn.sameBut hs hne
    refine key c o o' h' s.toks (.inr ⟨x, hc⟩) ho (by rw [hd]; nofun) ho' hs.extBut ⟨i.fr.kind, i.fr.gl, i.fr.bu, ⟨_, hn'⟩, fun n c' e => ?_, i.fr.apart⟩ (fun y u ne nu => ?_) (.inr ⟨.inl hl, c, hc, hc'⟩) (fun q => by rw [hl] at q; cases q)
    · by_cases q : c' = c
      · subst q; exact ⟨_, hc'⟩
      · obtain ⟨z, hz⟩ := i.fr.cell n c' e
        exact ⟨z, hz.sameBut hs q⟩
    · rcases nu with ⟨a, m', n, e⟩ | ⟨a, c', l, q⟩
      · exact .inl ⟨a, m', n.sameBut hs hne, e⟩
      · exact .inr ⟨a, c', l, q.sameBut hs fun z => ne (i.fr.apart y x c (z ▸ l) hc)⟩

theorem In.store (i : In G X W env σ cs s) {x : Str} {v : Value} {d : VD} {E : Value → Shared → Prop} (hv : d.At G (Or2 X W) s.heap v) (hk : env.kindOf x = some .local ∨ (env.kindOf x = some .cell ∧ (env.cells.lookup x).isSome = true)) :
    wpAny (model prog w) A (storeName env x v) (fun _ s' => In G X W env ((x, d) :: σ) cs s' ∧ QS G W s s') E s :=
  wpAny_mono (i.store' hv hk) (fun _ _ ⟨i', a, _, wa, q⟩ => ⟨i', q.weak fun b e => .inl (e ▸ wa)⟩) fun _ _ e => e

structure ExSU (U : Un) (prog : Program) (w : World) (A : Around) (G : Gn) (X W : Addr → Prop) (env : Env) (σ : List (Str × VD)) (cs : List (Addr × Cell)) (st : Stmt) (Q : Post) : Prop where
  run :
  ∀ s, In G X W env σ cs s → wpK U (model prog w) A (exec st env) (Out G X W env s Q) FF s
structure ExU (U : Un) (prog : Program) (w : World) (A : Around) (G : Gn) (X W : Addr → Prop) (env : Env) (σ : List (Str × VD)) (cs : List (Addr × Cell)) (sts : List Stmt) (Q : Post) : Prop where
  run :
  ∀ s, In G X W env σ cs s → wpK U (model prog w) A (execs sts env) (Out G X W env s Q) FF s
noncomputable abbrev Ex := ExU Un.all
theorem kff {U : Un} {α : Type} {M : Model} {A : Around} {t : Sem α} {Q Q' : α → Shared → Prop} {E : Value → Shared → Prop} {s : Shared} (h : wpK U M A t Q FF s) (hq : ∀ a s, Q a s → Q' a s) : wpK U M A t Q' E s := wpK_mono h hq fun _ _ f => f.elim

theorem QS.chain {W' : Addr → Prop} {s s1 s2 : Shared} (k : QS G W s s1) (hw : ∀ a, W' a → W a ∨ s.heap.get? a = none) (k' : QS G W' s1 s2) : QS G W s s2 := by
  obtain ⟨⟨h, tk, rfl⟩, a, b, c⟩ := k
  obtain ⟨⟨h', tk', rfl⟩, a', b', c'⟩ := k'
  exact ⟨⟨h', tk', rfl⟩, fun x o n j e => a' x o (fun z => (hw x z).elim n fun q => by rw [q] at e; cases e) j (a x o n j e), fun x o e => let ⟨o', e'⟩ := b x o e; b' x o' e', fun g => c' (c g)⟩
theorem fresh_back {s s1 : Shared} (k : QS G W s s1) {a : Addr} (h : s1.heap.get? a = none) : s.heap.get? a = none := by
  cases e : s.heap.get? a with
  | none => rfl
  | some o => obtain ⟨o', e'⟩ := k.live a o e; rw [h] at e'; cases e'
theorem Out.chain {W' : Addr → Prop} {Q : Post} {s s1 s2 : Shared} {f : Flow} (k : QS G W s s1) (hw : ∀ a, W' a → W a ∨ s.heap.get? a = none) (o : Out G X W' env s1 Q f s2) : Out G X W env s Q f s2 := by
  obtain ⟨fd, W2, σ2, cs2, q, i, k2, hw2, r⟩ := o
  exact ⟨fd, W2, σ2, cs2, q, i, k.chain hw k2, fun a h => (hw2 a h).elim (hw a) fun e => .inr (fresh_back k e), r⟩
theorem Out.same {Q : Post} {s s1 s2 : Shared} {f : Flow} (k : QS G W s s1) (o : Out G X W env s1 Q f s2) : Out G X W env s Q f s2 := o.chain k fun _ h => .inl h
section
variable {U : Un}
theorem Ex.nil {Q : Post} (h : Q .next W σ cs) : ExU U prog w A G X W env σ cs [] Q := ⟨fun s i => wpAny.k (wpAny_execs_nil ⟨.next, W, σ, cs, h, i, QS.refl s, fun _ h => .inl h, trivial⟩)⟩
theorem Ex.cons {st : Stmt} {rest : List Stmt} {Q1 Q : Post} (h1 : ExSU U prog w A G X W env σ cs st Q1) (h2 : ∀ W' σ' cs', Q1 .next W' σ' cs' → ExU U prog w A G X W' env σ' cs' rest Q)
    (h3 : ∀ fd W' σ' cs', fd ≠ .next → Q1 fd W' σ' cs' → Q fd W' σ' cs') : ExU U prog w A G X W env σ cs (st :: rest) Q := by
  refine ⟨fun s i => ?_⟩
  refine wpK_execs_cons (kff (h1.run s i) fun f s' o => ?_)
  obtain ⟨fd, W', σ', cs', q, i', k, hw, r⟩ := o
  cases f with
  | next =>
    cases fd <;> first | exact r.elim | skip
    exact kff ((h2 W' σ' cs' q).run s' i') fun f2 s2 o2 => o2.chain k hw
  | brk => cases fd <;> first | exact r.elim | exact ⟨.brk, W', σ', cs', h3 _ _ _ _ (by simp) q, i', k, hw, r⟩
  | cont => cases fd <;> first | exact r.elim | exact ⟨.cont, W', σ', cs', h3 _ _ _ _ (by simp) q, i', k, hw, r⟩
  | ret v => cases fd <;> first | exact r.elim | exact ⟨.ret _, W', σ', cs', h3 _ _ _ _ (by simp) q, i', k, hw, r⟩
end

/-- a statement that goes on, in one way -/
structure St1 (prog : Program) (w : World) (A : Around) (G : Gn) (X W : Addr → Prop) (env : Env) (σ : List (Str × VD)) (cs : List (Addr × Cell)) (st : Stmt) (σ' : List (Str × VD)) (cs' : List (Addr × Cell)) : Prop where
  run :
  ∀ s, In G X W env σ cs s → wpAny (model prog w) A (exec st env) (fun f s' => f = .next ∧ In G X W env σ' cs' s' ∧ QS G W s s') FF s
structure St1U (U : Un) (prog : Program) (w : World) (A : Around) (G : Gn) (X W : Addr → Prop) (env : Env) (σ : List (Str × VD)) (cs : List (Addr × Cell)) (st : Stmt) (σ' : List (Str × VD)) (cs' : List (Addr × Cell)) : Prop where
  run :
  ∀ s, In G X W env σ cs s → wpK U (model prog w) A (exec st env) (fun f s' => f = .next ∧ In G X W env σ' cs' s' ∧ QS G W s s') FF s
structure EvM (U : Un) (prog : Program) (w : World) (A : Around) (G : Gn) (X W : Addr → Prop) (env : Env) (σ : List (Str × VD)) (cs : List (Addr × Cell)) (e : Expr) (cs' : List (Addr × Cell)) (d : VD) : Prop where
  run :
  ∀ s, In G X W env σ cs s → wpK U (model prog w) A (eval e env) (fun v s' => In G X W env σ cs' s' ∧ QS G W s s' ∧ d.At G (Or2 X W) s'.heap v) FF s
section
variable {U : Un}
theorem Ex.stepU {st : Stmt} {rest : List Stmt} {σ' : List (Str × VD)} {cs' : List (Addr × Cell)} {Q : Post} (h : St1U U prog w A G X W env σ cs st σ' cs') (h2 : ExU U prog w A G X W env σ' cs' rest Q) : ExU U prog w A G X W env σ cs (st :: rest) Q := by
  refine ⟨fun s i => ?_⟩
  refine wpK_execs_cons (kff (h.run s i) fun f s' ⟨e, i', k⟩ => ?_)
  subst e
  exact kff (h2.run s' i') fun f2 s2 o2 => o2.same k
theorem St1.u {st : Stmt} {σ' : List (Str × VD)} {cs' : List (Addr × Cell)} (h : St1 prog w A G X W env σ cs st σ' cs') : St1U U prog w A G X W env σ cs st σ' cs' := ⟨fun s i => wpAny.k (h.run s i)⟩
theorem Ex.step {st : Stmt} {rest : List Stmt} {σ' : List (Str × VD)} {cs' : List (Addr × Cell)} {Q : Post} (h : St1 prog w A G X W env σ cs st σ' cs') (h2 : ExU U prog w A G X W env σ' cs' rest Q) : ExU U prog w A G X W env σ cs (st :: rest) Q := Ex.stepU h.u h2
theorem Ex.less {σ' : List (Str × VD)} {cs' : List (Addr × Cell)} {sts : List Stmt} {Q : Post} (h : ExU U prog w A G X W env σ' cs' sts Q) (h1 : ∀ x d, σ'.lookup x = some d → σ.lookup x = some d) (h2 : cs'.Sublist cs) : ExU U prog w A G X W env σ cs sts Q :=
  ⟨fun s i => h.run s ((i.less h1).lessC h2)⟩
end

theorem St1.assign {x : Str} {px pos : Pos} {e : Expr} {d : VD} (h : Ev prog w A G X W env σ cs e d) (hk : env.kindOf x = some .local ∨ (env.kindOf x = some .cell ∧ (env.cells.lookup x).isSome = true))
    (hs : swapsWith e (some (.Name x px)) pos.line env = pure false := by with_unfolding_all rfl) : St1 prog w A G X W env σ cs (.Assign [.Name x px] e pos) ((x, d) :: σ) cs := by
  refine ⟨fun s i => ?_⟩
  refine wpAny_Assign_Name (hs := hs) (wff (h.run s i) fun v s₁ ⟨k, r⟩ => ?_)
  exact wpAny_mono ((i.quiet k).store r hk) (fun _ s₂ ⟨i2, k2⟩ => ⟨rfl, i2, k.to.trans k2⟩) fun _ _ e => e
section
variable {U : Un}
theorem Ex.ret {e : Expr} {pos : Pos} {rest : List Stmt} {d : VD} {Q : Post} (h : Ev prog w A G X W env σ cs e d) (q : Q (.ret d) W σ cs) : ExU U prog w A G X W env σ cs (.Return (some e) pos :: rest) Q := by
  refine ⟨fun s i => ?_⟩
  exact wpAny.k (wpAny_execs_cons (wpAny_Return_some (wff (h.run s i) fun v s' ⟨k, r⟩ => ⟨.ret d, W, σ, cs, q, i.quiet k, k.to, fun _ h => .inl h, r.weak fun b x => .inl x⟩)))
theorem Ex.cont {pos : Pos} {rest : List Stmt} {Q : Post} (q : Q .cont W σ cs) : ExU U prog w A G X W env σ cs (.Continue pos :: rest) Q :=
  ⟨fun s i => wpAny.k (wpAny_execs_cons (wpAny_Continue ⟨.cont, W, σ, cs, q, i, QS.refl s, fun _ h => .inl h, trivial⟩))⟩
theorem Ex.ite {t : Expr} {b o rest : List Stmt} {pos : Pos} {c : Bool} {Q1 Q : Post} (ht : Tr prog w A G X W env σ cs t c) (h1 : c = true → ExU U prog w A G X W env σ cs b Q1) (h2 : c = false → ExU U prog w A G X W env σ cs o Q1)
    (hn : ∀ W' σ' cs', Q1 .next W' σ' cs' → ExU U prog w A G X W' env σ' cs' rest Q) (h3 : ∀ fd W' σ' cs', fd ≠ .next → Q1 fd W' σ' cs' → Q fd W' σ' cs') : ExU U prog w A G X W env σ cs (.If t b o pos :: rest) Q := by
  refine Ex.cons (Q1 := Q1) ⟨fun s i => wpK_If (kff (wpAny.k (ht.run s i)) fun r s' ⟨k, e⟩ => ?_)⟩ hn h3
  subst e
  cases r with
  | true => exact kff ((h1 rfl).run s' (i.quiet k)) fun _ _ o => o.same k.to
  | false => exact kff ((h2 rfl).run s' (i.quiet k)) fun _ _ o => o.same k.to
/-- one branch, and on -/
theorem Ex.iteT {t : Expr} {b o rest : List Stmt} {pos : Pos} {Q1 Q : Post} (ht : Tr prog w A G X W env σ cs t true) (h1 : ExU U prog w A G X W env σ cs b Q1) (hn : ∀ W' σ' cs', Q1 .next W' σ' cs' → ExU U prog w A G X W' env σ' cs' rest Q) (h3 : ∀ fd W' σ' cs', fd ≠ .next → Q1 fd W' σ' cs' → Q fd W' σ' cs') : ExU U prog w A G X W env σ cs (.If t b o pos :: rest) Q :=
  Ex.ite ht (fun _ => h1) nofun hn h3
theorem Ex.iteF {t : Expr} {b o rest : List Stmt} {pos : Pos} {Q1 Q : Post} (ht : Tr prog w A G X W env σ cs t false) (h1 : ExU U prog w A G X W env σ cs o Q1) (hn : ∀ W' σ' cs', Q1 .next W' σ' cs' → ExU U prog w A G X W' env σ' cs' rest Q) (h3 : ∀ fd W' σ' cs', fd ≠ .next → Q1 fd W' σ' cs' → Q fd W' σ' cs') : ExU U prog w A G X W env σ cs (.If t b o pos :: rest) Q :=
  Ex.ite ht nofun (fun _ => h1) hn h3
end
theorem St1.aug {x : Str} {px pos : Pos} {op : Operator} {e : Expr} {a b d : VD} (hl : σ.lookup x = some a) (h : Ev prog w A G X W env σ cs e b) (hop : B2 prog w A G (Or2 X W) (inplaceOp op) a b d) (hk : env.kindOf x = some .local ∨ (env.kindOf x = some .cell ∧ (env.cells.lookup x).isSome = true)) :
    St1 prog w A G X W env σ cs (.AugAssign (.Name x px) op e pos) ((x, d) :: σ) cs := by
  refine ⟨fun s i => ?_⟩
  have hn : PV prog w A G X W env σ cs (loadName env x) a := by
    intro s i
    obtain ⟨v, n, r⟩ := i.nm x a hl
    rcases n with ⟨a, m, n, e⟩ | ⟨a | ⟨a, hn⟩, c, l, q⟩
    · exact wpAny_loadName_local i.fr.kind a n e ⟨QS.refl s, r⟩
    · exact wpAny_loadName_cell i.fr.kind a l q ⟨QS.refl s, r⟩
    · exact wpAny_loadName_free i.fr.kind a l q ⟨QS.refl s, r⟩ hn
  refine wpAny_AugAssign_Name ?_
  refine wff (PV.two (E := FF) hn h.run hop i) (fun u s₁ h1 => wff h1 fun z s₂ h2 => wff h2 fun v s₃ ⟨k, r⟩ => ?_)
  exact wpAny_mono ((i.quiet k).store r hk) (fun _ s₂ ⟨i2, k2⟩ => ⟨rfl, i2, k.to.trans k2⟩) fun _ _ e => e
theorem iaddI {a b : Int} : B2 prog w A G X (inplaceOp .Add) (I a) (I b) (I (a + b)) := by
  intro s v u _ hv hu
  obtain ⟨t, rfl⟩ := Rd.int_inv hv; obtain ⟨t', rfl⟩ := Rd.int_inv hu
  exact iadd_int ⟨QS.toks, .int _ _⟩
theorem isubI {a b : Int} : B2 prog w A G X (inplaceOp .Sub) (I a) (I b) (I (a - b)) := by
  intro s v u _ hv hu
  obtain ⟨t, rfl⟩ := Rd.int_inv hv; obtain ⟨t', rfl⟩ := Rd.int_inv hu
  exact isub_int ⟨QS.toks, .int _ _⟩

/-! own mutable lists -/
theorem or_new {a c : Addr} (h : Or2 X (fun b => W b ∨ b = a) c) : Or2 X W c ∨ c = a := by
  rcases h with h | h | h
  · exact .inl (.inl h)
  · exact .inl (.inr h)
  · exact .inr h
/-- a value's own list that nothing else holds becomes a mutable one -/
theorem In.newCell (i : In G X W env σ cs s) {a : Addr} {c : Cell} {s' : Shared} (hs : QQ G s s') (ha : s.heap.get? a = none) (hc : c.At (Or2 X fun b => W b ∨ b = a) s'.heap a) : In G X (fun b => W b ∨ b = a) env σ ((a, c) :: cs) s' := by
  have i' := i.quiet hs
  have na : ∀ b, (X b ∨ W b) → b ≠ a := fun b hb q => by
    obtain ⟨o, e⟩ := i.hx b hb
    rw [q, ha] at e; cases e
  have hB : G.B.get? a = none := by
    cases e : G.B.get? a with
    | none => rfl
    | some o => rw [i.gd.fr.keep a o e] at ha; cases ha
  obtain ⟨oa, hoa, _⟩ := hc.notFields
  have nj : ¬ G.jk a := fun j => na a (.inl (i.jk a j)) rfl
  have hx : ∀ b o, ¬ Or2 X W b → s.heap.get? b = some o → ¬ Or2 X (fun b => W b ∨ b = a) b := fun b o n e q => (or_new q).elim n fun z => by rw [z, ha] at e; cases e
  have kk := fun b o (n : ¬ Or2 X W b) (e : s.heap.get? b = some o) => i.keeps hs b o (.inl n) e
  have kw := fun b o (n : W b) (e : s.heap.get? b = some o) => i.keeps hs b o (.inr (.inl n)) e
  refine ⟨i'.gd, i'.fr, fun b f => .inl (i.fx b f), i.jk, fun b hb => ?_, fun b hb => ?_, fun x d e => ?_, fun p hp => ?_, ?_⟩
  · rcases hb with hb | hb | hb
    · exact i'.hx b (.inl hb)
    · exact i'.hx b (.inr hb)
    · exact ⟨oa, hb ▸ hoa⟩
  · rcases hb with hb | hb
    · exact i.wb b hb
    · exact hb ▸ ⟨hB, nj⟩
  · obtain ⟨v, n, r⟩ := i.nm x d e
    exact ⟨v, n.up fun b o f e => kw b o (i.fx b f) e, r.step kk hx⟩
  · rcases List.mem_cons.mp hp with rfl | hp
    · exact ⟨⟨.inr (.inr rfl), nj⟩, fun f => na a (.inr (i.fx a f)) rfl, hc⟩
    · obtain ⟨w1, f1, r1⟩ := i.ce p hp
      exact ⟨⟨w1.1.imp id .inl, w1.2⟩, f1, r1.step kk hx fun o e => i.keeps hs _ o (.inr (.inr w1.2)) e⟩
  · rw [List.map_cons, List.nodup_cons]
    refine ⟨fun hm => ?_, i.ap⟩
    obtain ⟨p, hp, q⟩ := List.mem_map.mp hm
    have q' : p.1 = a := q
    have w1 := (i.ce p hp).1.1
    rw [q'] at w1
    exact na a w1 rfl
theorem In.noNew (i : In G X W env σ cs s) {a : Addr} (h : s.heap.get? a = none) : ¬ X a := fun z => by
  obtain ⟨o, e⟩ := i.hx a (.inl z)
  rw [h] at e; cases e
noncomputable def scalar : PyData → Bool
  | .list _ | .tuple _ | .dict _ => false
  | _ => true
theorem Rd.scalar {X' : Addr → Prop} {h h' : Heap} {v : Value} {d : PyData} (r : Rd X h v d) (e : scalar d = true) : Rd X' h' v d := by
  cases r <;> first | exact .none | exact .bool _ | exact .int _ _ | exact .str _ _ (by assumption) | cases e
theorem RdL.scalar {X' : Addr → Prop} {h h' : Heap} : ∀ {v : List Value} {d : List PyData}, RdL X h v d → d.all Mine.scalar = true → RdL X' h' v d
  | _, _, .nil, _ => .nil
  | _, _, .cons r p, e => by
    rw [List.all_cons, Bool.and_eq_true] at e
    exact .cons (r.scalar e.1) (RdL.scalar p e.2)
noncomputable abbrev Wn (W : Addr → Prop) (a : Addr) : Addr → Prop := fun b => W b ∨ b = a
/-- a statement that makes a mutable object -/
theorem Ex.making {U : Un} {st : Stmt} {x : Str} {c : Cell} {rest : List Stmt} {Q : Post}
    (h : ∀ s, In G X W env σ cs s → wpAny (model prog w) A (exec st env) (fun f s' => f = .next ∧ ∃ a, s.heap.get? a = none ∧ In G X (Wn W a) env ((x, .is (.ref a)) :: σ) ((a, c) :: cs) s' ∧ QS G (Wn W a) s s') FF s)
    (h2 : ∀ a, ¬ X a → ExU U prog w A G X (Wn W a) env ((x, .is (.ref a)) :: σ) ((a, c) :: cs) rest Q) : ExU U prog w A G X W env σ cs (st :: rest) Q := by
  refine ⟨fun s i => ?_⟩
  refine wpK_execs_cons (kff (wpAny.k (h s i)) fun f s₂ ⟨e, a, hf, i3, k3⟩ => ?_)
  subst e
  exact kff ((h2 a (fun z => i.noNew hf z)).run s₂ i3) fun f s₃ o => o.chain (k3.weak fun b h => h.elim .inl fun q => .inr (q ▸ hf)) fun b h => h.elim .inl fun q => .inr (q ▸ hf)
theorem Ex.newList {U : Un} {x : Str} {px pos lp : Pos} {es : List Expr} {ds : List PyData} {rest : List Stmt} {Q : Post} (h : EvL prog w A G X W env σ cs es (ds.map VD.dat)) (hs : ds.all scalar = true) (hl : ds.length ≤ sizeLine) (hk : env.kindOf x = some .local ∨ (env.kindOf x = some .cell ∧ (env.cells.lookup x).isSome = true))
    (h2 : ∀ a, ¬ X a → ExU U prog w A G X (Wn W a) env ((x, .is (.ref a)) :: σ) ((a, .lst ds) :: cs) rest Q) : ExU U prog w A G X W env σ cs (.Assign [.Name x px] (.List es lp) pos :: rest) Q := by
  refine Ex.making (fun s i => ?_) h2
  refine wpAny_Assign_Name (hs := rfl) (wpAny_List (wff (h.run lp s i) fun vs s₁ ⟨k, r⟩ => ⟨by rw [r.len, List.length_map]; exact hl, ?_⟩))
  have i1 := i.quiet k
  have hf : s₁.heap.get? s₁.heap.objs.size = none := Heap.get?_none_of_le (Nat.le_refl _)
  have kp : QQ G s₁ { s₁ with heap := s₁.heap.push { cls := .type "list", data := .seq vs.toArray } } := QS.push _
  have i2 := i1.newCell (c := .lst ds) kp hf ⟨vs.toArray, 0, Heap.get?_push_size _ rfl, r.data.scalar hs⟩
  exact wpAny_mono (i2.store (d := .is (.ref s₁.heap.objs.size)) rfl hk) (fun _ s₂ ⟨i3, k3⟩ => ⟨rfl, _, fresh_back k hf, i3, (QQ.to (k.trans kp)).trans k3⟩) fun _ _ e => e
end
end Mine
set_option maxRecDepth 100000
namespace Mine
open PySem PySem.W PyProof.Rows

inductive CU (a : Addr) (c c' : Cell) : List (Addr × Cell) → List (Addr × Cell) → Prop
  | head {r : List (Addr × Cell)} : CU a c c' ((a, c) :: r) ((a, c') :: r)
  | tail {p : Addr × Cell} {r r' : List (Addr × Cell)} : CU a c c' r r' → CU a c c' (p :: r) (p :: r')
theorem CU.mem {a : Addr} {c c' : Cell} : ∀ {l l' : List (Addr × Cell)}, CU a c c' l l' → (a, c) ∈ l
  | _, _, .head => .head _
  | _, _, .tail u => .tail _ u.mem
theorem CU.keys {a : Addr} {c c' : Cell} : ∀ {l l' : List (Addr × Cell)}, CU a c c' l l' → l'.map (·.1) = l.map (·.1)
  | _, _, .head => rfl
  | _, _, .tail u => by rw [List.map_cons, List.map_cons, u.keys]
theorem CU.new {a : Addr} {c c' : Cell} : ∀ {l l' : List (Addr × Cell)}, CU a c c' l l' → (l.map (·.1)).Nodup → ∀ p, p ∈ l' → (p = (a, c')) ∨ (p ∈ l ∧ p.1 ≠ a)
  | _, _, .head (r := r), n, p, h => by
    rcases List.mem_cons.mp h with rfl | h
    · exact .inl rfl
    · refine .inr ⟨.tail _ h, fun q => ?_⟩
      rw [List.map_cons, List.nodup_cons] at n
      have q' : p.1 = a := q
      exact n.1 (by show a ∈ _; rw [← q']; exact List.mem_map_of_mem h)
  | _, _, .tail (p := q) (r := r) u, n, p, h => by
    rw [List.map_cons, List.nodup_cons] at n
    rcases List.mem_cons.mp h with rfl | h
    · refine .inr ⟨.head _, fun q => n.1 ?_⟩
      rw [q]; exact List.mem_map_of_mem u.mem
    · exact (u.new n.2 p h).imp id fun ⟨a, b⟩ => ⟨.tail _ a, b⟩

section
variable {prog : Program} {w : World} {A : Around} {G : Gn} {X W : Addr → Prop} {env : Env} {σ : List (Str × VD)} {cs cs' : List (Addr × Cell)} {s s' : Shared}

theorem In.cell (i : In G X W env σ cs s) {a : Addr} {c : Cell} (h : (a, c) ∈ cs) : c.At (Or2 X W) s.heap a := (i.ce _ h).2.2
/-- a mutable object changes -/
theorem In.setCell (i : In G X W env σ cs s) {a : Addr} {c c' : Cell} (u : CU a c c' cs cs') (wa : W a) {h : Heap} {tk : Nat} (hs : Heap.ExtBut a s.heap h) (hc : c'.At (Or2 X W) h a) :
    In G X W env σ cs' { s with heap := h, toks := tk } ∧ QS G W s { s with heap := h, toks := tk } := by
  have hm := u.mem
  obtain ⟨_, fa, ra⟩ := i.ce _ hm
  obtain ⟨o, ho, hf⟩ := ra.notFields
  obtain ⟨o', ho', _⟩ := hc.notFields
  have q : QS G W s { s with heap := h, toks := tk } := QS.but hs ho ho' (i.wb a wa).1 (i.wb a wa).2 (.of hf) wa
  have kx : ∀ b o, ¬ Or2 X W b → s.heap.get? b = some o → h.get? b = some o := fun b o n e => hs b o (fun z => n (.inr (by rw [z]; exact wa))) e
  have kf : ∀ b o, Fx env b → s.heap.get? b = some o → h.get? b = some o := fun b o n e => hs b o (fun z => fa (z ▸ n)) e
  refine ⟨⟨q.gd i.gd, i.fr.up kf, i.fx, i.jk, fun b hb => let ⟨_, e⟩ := i.hx b hb; q.live _ _ e, i.wb, fun y e hl => ?_, fun p hp => ?_, by rw [u.keys]; exact i.ap⟩, q⟩
  · obtain ⟨v, n, r⟩ := i.nm y e hl
    exact ⟨v, n.up kf, r.step kx fun _ _ n _ => n⟩
  · rcases u.new i.ap p hp with rfl | ⟨hp, ne⟩
    · exact ⟨⟨.inr wa, (i.wb a wa).2⟩, fa, hc⟩
    · obtain ⟨w1, f1, r1⟩ := i.ce p hp
      exact ⟨w1, f1, r1.step kx (fun _ _ n _ => n) fun o e => hs _ _ ne e⟩

/-- x.append(e) -/
theorem St1.append {x : Str} {px apos cpos pos : Pos} {e : Expr} {a : Addr} {ds : List PyData} {d : PyData} (hl : σ.lookup x = some (.is (.ref a))) (he : Ev prog w A G X W env σ cs e (.dat d)) (u : CU a (.lst ds) (.lst (ds ++ [d])) cs cs') (wa : W a) (hsz : ds.length ≤ sizeLine)
    (hd : (x == ("__debug__" : Str)) = false := by decide)
    (hbase : attributeBase (.Name x px) "append" env (eval (.Name x px) env) = eval (.Name x px) env := by rfl) (hs : starEach [e] env = [(false, eval e env)] := by rfl) (hline : (apos.endLine == cpos.line) = true := by rfl)
    (hi : interactive env = false := by rfl) (hsw : swapsWith (.Call (.Attribute (.Name x px) "append" apos) [e] [] cpos) none pos.line env = pure false := by rfl) :
    St1 prog w A G X W env σ cs (.Expr (.Call (.Attribute (.Name x px) "append" apos) [e] [] cpos) pos) σ cs' := by
  refine ⟨fun s i => ?_⟩
  refine wpAny_Expr (hi := hi) (hs := hsw) (Call_method1 hbase hs hline (wff ((Ev.name (pos := px) hl hd).run s i) fun v s₁ ⟨k, r⟩ => ?_))
  have r' : v = .ref a := r
  subst r'
  have i1 := i.quiet k
  obtain ⟨vs, n, e1, r1⟩ := i1.cell u.mem
  refine ⟨"list", _, F.plainAttrs_list, F.slot_list_append, F.type_list_append, ⟨_, e1, rfl⟩, fun b hb => by cases hb; exact ⟨_, e1, rfl⟩, ?_⟩
  refine P.append_list (wff (he.run s₁ i1) fun y s₂ ⟨k2, r2⟩ => ?_)
  have i2 := i1.quiet k2
  obtain ⟨vs, n, e2, p2⟩ := i2.cell u.mem
  refine ⟨vs, n, by rw [Rd.size p2]; exact hsz, e2, ?_⟩
  have hs := (Heap.SameBut.update s₂.heap a (Obj.mapSeq fun xs => xs.push y)).extBut
  have kx : ∀ b o, ¬ Or2 X W b → s₂.heap.get? b = some o → (s₂.heap.update a (Obj.mapSeq fun xs => xs.push y)).get? b = some o := fun b o nb e => hs b o (fun z => nb (.inr (by rw [z]; exact wa))) e
  obtain ⟨i3, k3⟩ := i2.setCell (tk := s₂.toks) u wa (h := s₂.heap.update a (Obj.mapSeq fun xs => xs.push y)) hs ⟨vs.push y, _, get?_update_seq e2 _, by rw [Array.toList_push]; exact (p2.up kx).app (.one (Rd.up r2 kx))⟩
  exact ⟨rfl, i3, (QQ.to (k.trans k2)).trans k3⟩
end
end Mine
set_option maxRecDepth 100000
namespace Mine
open PySem PySem.W PyProof.Rows

section
variable {prog : Program} {w : World} {A : Around} {G : Gn} {X W : Addr → Prop} {env : Env} {σ : List (Str × VD)} {cs : List (Addr × Cell)} {s : Shared}

/-- a change at one place that no value of the frame holds -/
theorem In.but (i : In G X W env σ cs s) {a : Addr} {h : Heap} {tk : Nat} {o o' : Obj} (hs : Heap.ExtBut a s.heap h) (ho : s.heap.get? a = some o) (ho' : h.get? a = some o') (hx : X a) (hw : ¬ W a) (hj : ¬ G.jk a) (hB : G.B.get? a = none) (hf : NotCode o) (hc : ∀ p, p ∈ cs → p.1 ≠ a) :
    In G X W env σ cs { s with heap := h, toks := tk } := by
  have kx : ∀ b o, ¬ Or2 X W b → s.heap.get? b = some o → h.get? b = some o := fun b o n e => hs b o (fun z => n (.inl (by rw [z]; exact hx))) e
  have kw : ∀ b o, W b → s.heap.get? b = some o → h.get? b = some o := fun b o n e => hs b o (fun z => hw (by rw [← z]; exact n)) e
  refine ⟨i.gd.but hs hB hj ho hf, i.fr.up fun b o f e => kw b o (i.fx b f) e, i.fx, i.jk, fun b hb => ?_, i.wb, fun x d e => ?_, fun p hp => ?_, i.ap⟩
  · obtain ⟨ob, e⟩ := i.hx b hb
    by_cases q : b = a
    · exact ⟨o', by rw [q]; exact ho'⟩
    · exact ⟨ob, hs b ob q e⟩
  · obtain ⟨v, n, r⟩ := i.nm x d e
    exact ⟨v, n.up fun b o f e => kw b o (i.fx b f) e, r.step kx fun _ _ n _ => n⟩
  · obtain ⟨w1, f1, r1⟩ := i.ce p hp
    exact ⟨w1, f1, r1.step kx (fun _ _ n _ => n) fun o e => hs _ o (hc p hp) e⟩

/-- what a block of its own keeps of the names around it -/
inductive Caps (env : Env) (cl : List (Str × Addr)) (names : List (Str × NameKind)) (σ : List (Str × VD)) : List (Str × VD) → Prop
  | nil : Caps env cl names σ []
  | cons {y : Str} {d : VD} {c : Addr} {r : List (Str × VD)} : σ.lookup y = some d → env.kindOf y = some .cell → names.lookup y = some .cell → env.cells.lookup y = some c → cl.lookup y = some c → Caps env cl names σ r → Caps env cl names σ ((y, d) :: r)
theorem Caps.get {cl : List (Str × Addr)} {names : List (Str × NameKind)} : ∀ {σc : List (Str × VD)}, Caps env cl names σ σc → ∀ y d, σc.lookup y = some d → σ.lookup y = some d ∧ env.kindOf y = some .cell ∧ names.lookup y = some .cell ∧ ∃ c, env.cells.lookup y = some c ∧ cl.lookup y = some c
  | _, .nil, _, _, h => by simp at h
  | _, .cons (y := z) h1 h2 h3 h4 h5 r, y, d, h => by
    rw [List.lookup_cons] at h
    cases hb : y == z with
    | true =>
      rw [hb] at h; cases h
      rw [beq_iff_eq.mp hb]
      exact ⟨h1, h2, h3, _, h4, h5⟩
    | false => rw [hb] at h; exact r.get y d h

/-- the state of a block of its own -/
theorem In.block (i : In G X W env σ cs s) {scope : Scope} {cl : List (Str × Addr)} {C : Addr} {σc : List (Str × VD)} {X' : Addr → Prop} {s' : Shared} {m : Str → Option Value} (k : QQ G s s') (hC : s.heap.get? C = none) (hn : s'.heap.Ns C m)
    (hX : ∀ a, X a → X' a) (hX' : ∀ a, X' a → X a ∨ (s.heap.get? a = none ∧ ∃ o, s'.heap.get? a = some o)) (hcl : ∀ n c, cl.lookup n = some c → ∃ n', n' = n ∧ env.cells.lookup n' = some c) (caps : Caps env cl (relabel scope env).names σ σc) (hkind : scope.kind = .function) :
    In G X' (Wn W C) (compEnvC scope cl C env) σc cs s' := by
  have i' := i.quiet k
  have kk := fun b o (n : ¬ Or2 X W b) (e : s.heap.get? b = some o) => i.keeps k b o (.inl n) e
  have kw := fun b o (n : W b) (e : s.heap.get? b = some o) => i.keeps k b o (.inr (.inl n)) e
  have hx : ∀ b o, ¬ Or2 X W b → s.heap.get? b = some o → ¬ Or2 X' (Wn W C) b := fun b o n e q => by
    rcases q with q | q | q
    · rcases hX' b q with q | q
      · exact n (.inl q)
      · rw [q.1] at e; cases e
    · exact n (.inr q)
    · rw [q, hC] at e; cases e
  have nj : ¬ G.jk C := fun j => by
    obtain ⟨o, e⟩ := i.hx C (.inl (i.jk C j))
    rw [hC] at e; cases e
  have hB : G.B.get? C = none := by
    cases e : G.B.get? C with
    | none => rfl
    | some o => rw [i.gd.fr.keep C o e] at hC; cases hC
  have nC : ∀ b, W b → b ≠ C := fun b wb q => by
    obtain ⟨o, e⟩ := i.hx b (.inr wb)
    rw [q, hC] at e; cases e
  refine ⟨i'.gd, ⟨hkind, i.fr.gl, i.fr.bu, ⟨m, hn⟩, fun n c e => ?_, fun n n' c e e' => ?_⟩, fun a f => ?_, fun a j => hX a (i.jk a j), fun a ha => ?_, fun a ha => ?_, fun y d e => ?_, fun p hp => ?_, i.ap⟩
  · obtain ⟨n', rfl, e'⟩ := hcl n c e
    exact i'.fr.cell n' c e'
  · obtain ⟨_, rfl, e1⟩ := hcl n c e
    obtain ⟨_, rfl, e2⟩ := hcl n' c e'
    exact i.fr.apart _ _ c e1 e2
  · rcases f with f | ⟨n, f⟩
    · exact .inr f
    · obtain ⟨_, rfl, e1⟩ := hcl n a f
      exact .inl (i.fx a (.inr ⟨_, e1⟩))
  · rcases ha with ha | ha | ha
    · rcases hX' a ha with q | q
      · exact i'.hx a (.inl q)
      · exact q.2
    · exact i'.hx a (.inr ha)
    · obtain ⟨o, _, _, e, _⟩ := hn
      exact ⟨o, by rw [ha]; exact e⟩
  · rcases ha with ha | ha
    · exact i.wb a ha
    · rw [ha]; exact ⟨hB, nj⟩
  · obtain ⟨e1, e2, e3, c, e4, e5⟩ := caps.get y d e
    obtain ⟨v, n, r⟩ := i.nm y d e1
    refine ⟨v, .inr ⟨.inl e3, c, e5, ?_⟩, r.step kk hx⟩
    rcases n with ⟨a, _⟩ | ⟨_, c', l, o, ho, hd⟩
    · rw [e2] at a; cases a
    · rw [e4] at l; cases l
      exact ⟨o, kw _ o (i.fx _ (.inr ⟨y, e4⟩)) ho, hd⟩
  · obtain ⟨w1, f1, r1⟩ := i.ce p hp
    refine ⟨⟨w1.1.imp (hX _) .inl, w1.2⟩, fun f => ?_, r1.step kk hx fun o e => i.keeps k _ o (.inr (.inr w1.2)) e⟩
    rcases f with f | ⟨n, f⟩
    · obtain ⟨o, e⟩ := i.hx p.1 w1.1
      rw [show p.1 = C from f, hC] at e; cases e
    · obtain ⟨_, rfl, e1⟩ := hcl n p.1 f
      exact f1 (.inr ⟨_, e1⟩)

structure TrL (prog : Program) (w : World) (A : Around) (G : Gn) (X W : Addr → Prop) (env : Env) (σ : List (Str × VD)) (cs : List (Addr × Cell)) (ifs : List Expr) (b : Bool) : Prop where
  run :
  ∀ s, In G X W env σ cs s → wpAny (model prog w) A (forIn ifs true fun c r => if r = true then do let ok ← isTrue c env (eval c env); pure (ForInStep.yield ok) else pure (ForInStep.yield r)) (fun r s' => QQ G s s' ∧ r = b) FF s
theorem TrL.nil : TrL prog w A G X W env σ cs [] true := ⟨fun s _ => wpAny_tests_nil ⟨QS.refl s, rfl⟩⟩
theorem TrL.one {t : Expr} {b : Bool} (h : Tr prog w A G X W env σ cs t b) : TrL prog w A G X W env σ cs [t] b := ⟨fun s i => wpAny_tests_one (h.run s i)⟩

theorem adr {a b : Nat} (h : @Eq Addr a b) : @Eq Nat a b := h
theorem adl {a b : Nat} (h : @LT.lt Addr instLTNat a b) : @LT.lt Nat instLTNat a b := h
theorem adn {a b : Nat} (h : @Ne Nat a b) : @Ne Addr a b := h
theorem QQ.drop {s s' : Shared} (q : QQ G s s') {C : Addr} {h' : Heap} {tk : Nat} {o : Obj} (hs : Heap.ExtBut C s'.heap h') (hC : s.heap.get? C = none) (ho : s'.heap.get? C = some o) (nc : NotCode o) (hB : G.B.get? C = none) (hj : ¬ G.jk C) : QQ G s { s' with heap := h', toks := tk } := by
  obtain ⟨⟨h, tk, rfl⟩, a, b, c⟩ := q
  have ne : ∀ b o, s.heap.get? b = some o → b ≠ C := fun b o e q => by rw [q, hC] at e; cases e
  exact ⟨⟨h', _, rfl⟩, fun x o n j e => hs x o (ne _ _ e) (a x o n j e), fun x o e => let ⟨o', e'⟩ := b x o e; ⟨o', hs x o' (ne _ _ e) e'⟩, fun g => (c g).but hs hB hj ho nc⟩
theorem In.noB (i : In G X W env σ cs s) {C : Addr} (hC : s.heap.get? C = none) : G.B.get? C = none ∧ ¬ G.jk C ∧ ¬ Or2 X W C := by
  refine ⟨?_, fun j => ?_, fun j => ?_⟩
  · cases e : G.B.get? C with
    | none => rfl
    | some o => rw [i.gd.fr.keep C o e] at hC; cases hC
  · obtain ⟨o, e⟩ := i.hx C (.inl (i.jk C j)); rw [hC] at e; cases e
  · obtain ⟨o, e⟩ := i.hx C j; rw [hC] at e; cases e
noncomputable abbrev Xn (X : Addr → Prop) (a : Addr) : Addr → Prop := fun b => X b ∨ b = a
theorem In.widen {s' : Shared} (i : In G X W env σ cs s) (k : QQ G s s') {C : Addr} {o : Obj} (hC : s.heap.get? C = none) (ho : s'.heap.get? C = some o) : In G (Xn X C) W env σ cs s' := by
  have i' := i.quiet k
  have kk := fun b o (n : ¬ Or2 X W b) (e : s.heap.get? b = some o) => i.keeps k b o (.inl n) e
  have kw := fun b o (n : W b) (e : s.heap.get? b = some o) => i.keeps k b o (.inr (.inl n)) e
  have hx : ∀ b o, ¬ Or2 X W b → s.heap.get? b = some o → ¬ Or2 (Xn X C) W b := fun b o n e q => by
    rcases q with (q | q) | q
    · exact n (.inl q)
    · rw [q, hC] at e; cases e
    · exact n (.inr q)
  refine ⟨i'.gd, i'.fr, i'.fx, fun a j => .inl (i.jk a j), fun a ha => ?_, i.wb, fun y d e => ?_, fun p hp => ?_, i.ap⟩
  · rcases ha with (ha | ha) | ha
    · exact i'.hx a (.inl ha)
    · exact ⟨o, by rw [ha]; exact ho⟩
    · exact i'.hx a (.inr ha)
  · obtain ⟨v, n, r⟩ := i.nm y d e
    exact ⟨v, n.up fun b o f e => kw b o (i.fx b f) e, r.step kk hx⟩
  · obtain ⟨w1, f1, r1⟩ := i.ce p hp
    exact ⟨⟨w1.1.imp .inl id, w1.2⟩, f1, r1.step kk hx fun o e => i.keeps k _ o (.inr (.inr w1.2)) e⟩
theorem In.forget {C : Addr} {h : Heap} {tk : Nat} {o : Obj} (i : In G (Xn X C) W env σ cs s) (hj : ∀ a, G.jk a → X a) (nX : ¬ Or2 X W C) (hs : Heap.ExtBut C s.heap h) (ho : s.heap.get? C = some o) (nc : NotCode o) (hB : G.B.get? C = none) (hc : ∀ p, p ∈ cs → p.1 ≠ C) : In G X W env σ cs { s with heap := h, toks := tk } := by
  have kx : ∀ b o, ¬ Or2 (Xn X C) W b → s.heap.get? b = some o → h.get? b = some o := fun b o n e => hs b o (fun z => n (.inl (.inr z))) e
  have kw : ∀ b o, W b → s.heap.get? b = some o → h.get? b = some o := fun b o n e => hs b o (fun z => nX (.inr (z ▸ n))) e
  have hw : ∀ b o, ¬ Or2 (Xn X C) W b → s.heap.get? b = some o → ¬ Or2 X W b := fun b o n _ q => n (q.imp .inl id)
  refine ⟨i.gd.but hs hB (fun j => nX (.inl (hj C j))) ho nc, i.fr.up fun b o f e => kw b o (i.fx b f) e, i.fx, hj, fun a ha => ?_, i.wb, fun y d e => ?_, fun p hp => ?_, i.ap⟩
  · obtain ⟨oa, e⟩ := i.hx a (ha.imp .inl id)
    exact ⟨oa, hs a oa (fun z => nX (z ▸ ha)) e⟩
  · obtain ⟨v, n, r⟩ := i.nm y d e
    exact ⟨v, n.up fun b o f e => kw b o (i.fx b f) e, r.step kx hw⟩
  · obtain ⟨w1, f1, r1⟩ := i.ce p hp
    refine ⟨⟨?_, w1.2⟩, f1, r1.step kx hw fun o e => hs _ o (hc p hp) e⟩
    rcases w1.1 with (z | z) | z
    · exact .inl z
    · exact absurd z (hc p hp)
    · exact .inr z
theorem In.ceNe (i : In G X W env σ cs s) {C : Addr} (hC : ¬ Or2 X W C) : ∀ p, p ∈ cs → p.1 ≠ C := fun p hp q => hC (q ▸ (i.ce p hp).1.1)
theorem comp_core {α : Type} {elt iter : Expr} {x : Str} {px : Pos} {ifs : List Expr} {scope : Scope} {cl : List (Str × Addr)} {pos : Pos} {xs : List α} {enc f : α → PyData} {p : α → Bool} {σc : List (Str × VD)} {oI : Obj} {fp : List Addr} {P : Nat → Value → Prop} {St : Nat → Heap → Prop}
    {RR : Value → Addr → Result → Shared → Prop} {E : Value → Shared → Prop} (i : In G X W env σ cs s) (K : Walks prog w A s.heap.objs.size fp [s.heap.objs.size] xs.length P St) (hsz : xs.length ≤ sizeLine) (hfp : ∀ b ∈ fp, b < (s.heap.push oI).objs.size) (fpj : ∀ b ∈ fp, ¬ G.jk b) (hst : St 0 (s.heap.push oI))
    (hIo : ∀ j h, St j h → ∃ o, h.get? s.heap.objs.size = some o ∧ NotCode o) (hP : ∀ j v, P j v → ∃ a, xs[j]? = some a ∧ Rd (Or2 X W) s.heap v (enc a))
    (hcell : ∀ y ∈ scope.names, y.2 ≠ .cell) (hkind : scope.kind = .function) (hx : scope.names.lookup x = some .local) (hcl : ∀ n c, cl.lookup n = some c → ∃ n', n' = n ∧ env.cells.lookup n' = some c) (caps : Caps env cl (relabel scope env).names σ σc)
    (htest : ∀ C X' a, a ∈ xs → TrL prog w A G X' (Wn W C) (compEnvC scope cl C env) ((x, .dat (enc a)) :: σc) cs ifs (p a))
    (helt : ∀ C X' a, a ∈ xs → p a = true → Ev prog w A G X' (Wn W C) (compEnvC scope cl C env) ((x, .dat (enc a)) :: σc) cs elt (.dat (f a)))
    (hRR : ∀ D C s' m, QQ G s s' → s.heap.get? D = none → s.heap.get? C = none → D ≠ C → s'.heap.Ns C m → Rd (Or2 X (Wn W C)) s'.heap (.ref D) (.list ((xs.filter p).map f)) → RR (.ref D) C (.ok .next) s') :
    wpAny (model prog w) A (newList []) (fun acc s₃ => wpAny (model prog w) A (newFunctionEnv scope env.globals cl [] env.qual none .none (some env)) (fun cenv s₄ =>
      codeAny (model prog w) A (.compStart (.ListComp elt [⟨.Name x px, iter, ifs, 0⟩] scope pos) 0 (.ref s.heap.objs.size) acc { cenv with scope := relabel scope env }) (RR acc cenv.locals) s₄) E s₃) E { s with heap := s.heap.push oI } := by
  refine wpAny_newObj_type (wpAny_newFunctionEnv hcell (by intro y hy; simp at hy) (fun h₁ hns₁ hsb₁ => ?_) hkind)
  dsimp only at hns₁ hsb₁ ⊢
  generalize hI : s.heap.objs.size = Ia at *
  generalize hH1 : s.heap.push oI = H1 at *
  generalize hH2 : H1.push { cls := .type "list", dict := none, data := .seq ([] : List Value).toArray } = H2 at hns₁ hsb₁ ⊢
  have hD : H1.objs.size = Ia + 1 := by rw [← hH1, Heap.size_push, hI]
  have hC : H2.objs.size = Ia + 2 := by rw [← hH2, Heap.size_push, hD]
  rw [hC] at hns₁ hsb₁
  simp only [hD, hC]
  have fresh : ∀ a, Ia ≤ a → s.heap.get? a = none := fun a ha => Heap.get?_none_of_le (by rw [hI]; exact ha)
  have old : ∀ b o, H1.get? b = some o → h₁.get? b = some o := fun b o e => hsb₁.extBut b o (fun q => by
      have h1 := adl (Heap.lt_size e)
      have h2 := adr q
      rw [hD] at h1
      lia) (Heap.get?_push_of_some _ (hH2 ▸ Heap.get?_push_of_some _ e))
  have hDo : h₁.get? (Ia + 1) = some { cls := .type "list", data := .seq #[] 0 } := hsb₁.extBut _ _ (adn (by lia)) (Heap.get?_push_of_some _ (by rw [← hH2, ← hD]; exact Heap.get?_push_size _ rfl))
  have hst₁ : St 0 h₁ := K.frame _ _ _ hst fun b _ o e => old b o e
  have kup : ∀ b o, s.heap.get? b = some o → h₁.get? b = some o := fun b o e => old b o (by rw [← hH1]; exact Heap.get?_push_of_some _ e)
  have wff_get : ∀ b o, s.heap.get? b = some o → b < Ia := fun b o e => by rw [← hI]; exact Heap.lt_size e
  have nx : ∀ a, Ia ≤ a → ¬ Or2 X W a := fun a ha q => by
    obtain ⟨o, e⟩ := i.hx a q
    rw [fresh a ha] at e; cases e
  have nj : ∀ a, Ia ≤ a → ¬ G.jk a := fun a ha j => nx a ha (.inl (i.jk a j))
  have nB : ∀ a, Ia ≤ a → G.B.get? a = none := fun a ha => by
    cases e : G.B.get? a with
    | none => rfl
    | some o => have := i.gd.fr.keep a o e; rw [fresh a ha] at this; cases this
  let X' : Addr → Prop := fun a => X a ∨ a = Ia ∨ a = Ia + 1
  have nW : ∀ a, Ia ≤ a → a ≠ Ia + 2 → ¬ Wn W (Ia + 2) a := fun a ha ne q => q.elim (fun q => nx a ha (.inr q)) ne
  have i₁ : In G X' (Wn W (Ia + 2)) (compEnvC scope cl (Ia + 2) env) σc cs { s with heap := h₁, toks := s.toks + ([] : List (Str × Value)).length } := by
    refine i.block (QS.up kup) (fresh _ (by lia)) hns₁ (fun a h => .inl h) (fun a h => ?_) hcl caps hkind
    · rcases h with h | h | h
      · exact .inl h
      · refine .inr ⟨fresh a (by have := adr h; lia), ?_⟩
        obtain ⟨o, e, _⟩ := hIo 0 h₁ hst₁
        exact ⟨o, by rw [h]; exact e⟩
      · exact .inr ⟨fresh a (by have := adr h; lia), _, by rw [h]; exact hDo⟩
  have loop : ∀ s₃ : Shared, s₃ = { s with heap := h₁, toks := s.toks + ([] : List (Str × Value)).length } →
      codeAny (model prog w) A (.compLoop (.ListComp elt [⟨.Name x px, iter, ifs, 0⟩] scope pos) 0 (.ref Ia) (.ref (Ia + 1)) (compEnvC scope cl (Ia + 2) env))
        (RR (.ref (Ia + 1)) (Ia + 2)) s₃ := by
    rintro s₃ rfl
    refine codeAny_compLoop_tests
      (fun k s' => ∃ j ys n, j ≤ xs.length ∧ k = xs.length + 1 - j ∧ In G X' (Wn W (Ia + 2)) (compEnvC scope cl (Ia + 2) env) σc cs s' ∧ QQ G s s' ∧ St j s'.heap ∧ s'.heap.get? (Ia + 1) = some { cls := .type "list", data := .seq ys n } ∧
        RdL (Or2 X' (Wn W (Ia + 2))) s'.heap ys.toList (((xs.take j).filter p).map f)) ?_ (xs.length + 1)
      ⟨0, #[], 0, Nat.zero_le _, rfl, i₁, QS.up kup, hst₁, hDo, by simpa using RdL.nil⟩
    rintro k s' ⟨j, ys, n, hj, rfl, i', q', st', hD', rd'⟩
    have up : ∀ {s1 s2 : Shared}, QQ G s1 s2 → ∀ b o, ¬ Or2 X W b → s1.heap.get? b = some o → s2.heap.get? b = some o := fun q b o nb e => q.keep b o id (fun z => nb (.inl (i.jk b z))) e
    by_cases hlt : j < xs.length
    · refine K.item j _ _ _ hlt st' fun v h₂ tk₂ hPv hst₂ hk₂ => ?_
      obtain ⟨a, ha, rv⟩ := hP j v hPv
      have hmem : a ∈ xs := List.mem_of_getElem? ha
      obtain ⟨o0, ho0, nc0⟩ := hIo _ _ st'
      obtain ⟨o2, ho2, nc2⟩ := hIo _ _ hst₂
      have hs2 : Heap.ExtBut Ia s'.heap h₂ := fun b o nb e => hk₂ b o (by simpa using nb) e
      have i2 : In G X' (Wn W (Ia + 2)) (compEnvC scope cl (Ia + 2) env) σc cs { s' with heap := h₂, toks := tk₂ } := i'.but hs2 ho0 ho2 (.inr (.inl rfl)) (nW _ (Nat.le_refl _) (adn (by lia))) (nj _ (Nat.le_refl _)) (nB _ (Nat.le_refl _)) nc0 (i.ceNe (nx _ (Nat.le_refl _)))
      have q2 : QQ G s { s' with heap := h₂, toks := tk₂ } := by
        exact q'.chain (W' := fun b => b = Ia) (fun b e => .inr (fresh b (by have := adr e; lia))) (QS.but (tk := tk₂) hs2 ho0 ho2 (nB _ (Nat.le_refl _)) (nj _ (Nat.le_refl _)) nc0 rfl)
      have hD2 : h₂.get? (Ia + 1) = some { cls := .type "list", data := .seq ys n } := hs2 _ _ (adn (by lia)) hD'
      have z2 : ∀ b o, ¬ Or2 X' (Wn W (Ia + 2)) b → s'.heap.get? b = some o → h₂.get? b = some o := fun b o nb e => hs2 b o (fun z => nb (.inl (.inr (.inl z)))) e
      have rd2 := rd'.up z2
      have rv2 : (VD.dat (enc a)).At G (Or2 X' (Wn W (Ia + 2))) h₂ v := by
        refine Rd.step (fun b o nb e => up q2 b o nb e) (fun b o nb e z => ?_) rv
        have lt := adl (wff_get b o e)
        rcases z with (z | z | z) | z | z
        · exact nb (.inl z)
        · have := adr z; lia
        · have := adr z; lia
        · exact nb (.inr z)
        · have := adr z; lia
      have hszy : ys.size ≤ sizeLine := by
        have e1 := Rd.size rd'
        have e2 : ((xs.take j).filter p).length ≤ (xs.take j).length := List.length_filter_le _ _
        have e3 : (xs.take j).length ≤ xs.length := by rw [List.length_take]; lia
        rw [List.length_map] at e1
        lia
      have tk1 : ∀ (b : Bool), p a = b → ((xs.take (j + 1)).filter p).map f = ((xs.take j).filter p).map f ++ (if b then [f a] else []) := fun b hb => by
        rw [take_succ_filter p xs j a ha, List.map_append, hb]
        cases b <;> simp
      have later : ∀ {s4 s5 : Shared} {σ' : List (Str × VD)}, In G X' (Wn W (Ia + 2)) (compEnvC scope cl (Ia + 2) env) σ' cs s4 → QQ G s4 s5 → (∀ b o, (¬ Or2 X' (Wn W (Ia + 2)) b ∨ b = Ia ∨ b = Ia + 1) → s4.heap.get? b = some o → s5.heap.get? b = some o) := fun i4 q b o nb e => by
        refine q.keep b o id (fun z => ?_) e
        rcases nb with nb | nb | nb
        · exact nb (.inl (i4.jk b z))
        · exact nj b (by have := adr nb; lia) z
        · exact nj b (by have := adr nb; lia) z
      have fpIn : ∀ b, b ∈ fp → b ≠ Ia + 1 ∧ b ≠ Ia + 2 := fun b hb => by
        have := adl (hfp b hb)
        rw [hD] at this
        exact ⟨fun q => by have := adr q; lia, fun q => by have := adr q; lia⟩
      refine wpAny_assign_Name (wpAny_mono (i2.store' rv2 (.inl (lookup_relabel_local hx))) (fun _ s4 ⟨i4, c4, hc4, _, k4⟩ => ?_) fun _ _ e => e)
      have hc4 : c4 = Ia + 2 := hc4 (lookup_relabel_local hx)
      rw [hc4] at k4
      have back : ∀ {y : Str} {d : VD}, σc.lookup y = some d → ((x, VD.dat (enc a)) :: σc).lookup y = some d := fun {y d} e => by
        have hy := (caps.get y d e).2.2.1
        rw [List.lookup_cons]
        cases hb : y == x with
        | false => exact e
        | true =>
          rw [beq_iff_eq.mp hb] at hy
          have hz : (relabel scope env).names.lookup x = some .local := lookup_relabel_local hx
          rw [hz] at hy
          cases hy
      -- what the store keeps
      have qs4 : QQ G s s4 := q2.chain (W' := fun b => b = Ia + 2) (fun b e => .inr (fresh b (by have := adr e; lia))) k4
      have kp4 : ∀ b o, (b ≠ Ia + 2) → ¬ G.jk b → h₂.get? b = some o → s4.heap.get? b = some o := fun b o nb nj' e => k4.keep b o nb nj' e
      have hD4 : s4.heap.get? (Ia + 1) = some { cls := .type "list", data := .seq ys n } := kp4 _ _ (adn (by lia)) (nj _ (by lia)) hD2
      have st4 : St (j + 1) s4.heap := K.frame _ _ _ hst₂ fun b hb o e => kp4 b o (fpIn b hb).2 (fun z => (fpj b hb z).elim) e
      have rd4 : RdL (Or2 X' (Wn W (Ia + 2))) s4.heap ys.toList (((xs.take j).filter p).map f) := rd2.up fun b o nb e => kp4 b o (fun q => nb (.inr (.inr q))) (fun z => nb (.inl (i2.jk b z))) e
      refine wff ((htest _ X' a hmem).run s4 i4) fun ok s5 ⟨q5, e5⟩ => ?_
      have i5 := i4.quiet q5
      have l5 := later i4 q5
      have hD5 := l5 _ _ (.inr (.inr rfl)) hD4
      have st5 : St (j + 1) s5.heap := K.frame _ _ _ st4 fun b hb o e => q5.keep b o id (fun z => (fpj b hb z).elim) e
      have rd5 := rd4.up fun b o nb e => l5 b o (.inl nb) e
      subst e5
      cases hpa : p a with
      | false =>
        simp only [Bool.false_eq_true, if_false]
        exact ⟨_, by lia, j + 1, ys, n, by lia, rfl, i5.less (fun y d e => back e), qs4.trans q5, st5, hD5, by rw [tk1 _ hpa]; simpa using rd5⟩
      | true =>
        simp only [if_true]
        refine wff ((helt _ X' a hmem hpa).run s5 i5) fun y s6 ⟨q6, r6⟩ => ?_
        have i6 := i5.quiet q6
        have l6 := later i5 q6
        have hD6 := l6 _ _ (.inr (.inr rfl)) hD5
        have st6 : St (j + 1) s6.heap := K.frame _ _ _ st5 fun b hb o e => q6.keep b o id (fun z => (fpj b hb z).elim) e
        have rd6 := rd5.up fun b o nb e => l6 b o (.inl nb) e
        refine append_at hD6 (hsz := hszy) fun h7 hs7 hD7 => ?_
        have x7 := hs7.extBut
        have i7 := i6.but (tk := s6.toks) x7 hD6 hD7 (.inr (.inr rfl)) (nW _ (by lia) (adn (by lia))) (nj _ (by lia)) (nB _ (by lia)) (.of fun _ => nofun) (i.ceNe (nx _ (by lia)))
        have z7 : ∀ b o, ¬ Or2 X' (Wn W (Ia + 2)) b → s6.heap.get? b = some o → h7.get? b = some o := fun b o nb e => x7 b o (fun z => nb (.inl (.inr (.inr z)))) e
        refine ⟨_, by lia, j + 1, ys.push y, n + 1, by lia, rfl, i7.less (fun y d e => back e), ?_, K.frame _ _ _ st6 (fun b hb o e => x7 b o (fpIn b hb).1 e), hD7, ?_⟩
        · exact ((qs4.trans q5).trans q6).chain (W' := fun b => b = Ia + 1) (fun b e => .inr (fresh b (by have := adr e; lia))) (QS.but (tk := s6.toks) x7 hD6 hD7 (nB _ (by lia)) (nj _ (by lia)) (.of fun _ => nofun) rfl)
        · rw [tk1 _ hpa, Array.toList_push]
          exact (rd6.up z7).app (.one (Rd.up r6 z7))
    · obtain rfl : j = xs.length := Nat.le_antisymm hj (Nat.not_lt.mp hlt)
      refine K.done _ _ _ st' fun h₂ tk₂ hk₂ => ?_
      obtain ⟨o0, ho0, nc0⟩ := hIo _ _ st'
      have hs2 : Heap.ExtBut Ia s'.heap h₂ := fun b o nb e => hk₂ b o (by simpa using nb) e
      obtain ⟨m', hm'⟩ := i'.fr.ns
      have hm' : s'.heap.Ns (Ia + 2) m' := hm'
      have hm2 : h₂.Ns (Ia + 2) m' := hm'.extBut hs2 (adn (by lia))
      have z2 : ∀ b o, ¬ Or2 X' (Wn W (Ia + 2)) b → s'.heap.get? b = some o → h₂.get? b = some o := fun b o nb e => hs2 b o (fun z => nb (.inl (.inr (.inl z)))) e
      have rd2 := rd'.up z2
      rw [List.take_of_length_le (Nat.le_refl _)] at rd2
      have hD2 : h₂.get? (Ia + 1) = some { cls := .type "list", data := .seq ys n } := hs2 _ _ (adn (by lia)) hD'
      refine hRR (Ia + 1) (Ia + 2) { s' with heap := h₂, toks := tk₂ } m' ?_ (fresh _ (by lia)) (fresh _ (by lia)) (adn (by lia)) hm2 (.list (fun z => z.elim (fun z => nx (Ia + 1) (by lia) (.inl z)) (nW _ (by lia) (adn (by lia)))) hD2 (rd2.step (fun _ _ _ e => e) fun b o nb e z => nb (z.imp .inl id)))
      obtain ⟨⟨h', tk', e'⟩, a', b', c'⟩ := q'
      refine ⟨⟨h₂, tk₂, by rw [e']⟩, fun b o n j e => hs2 b o (fun q => ?_) (a' b o n j e), fun b o e => ?_, fun g => (c' g).but hs2 (nB _ (Nat.le_refl _)) (nj _ (Nat.le_refl _)) ho0 nc0⟩
      · have lt := adl (wff_get b o e)
        have := adr q
        lia
      · obtain ⟨o', e'⟩ := b' b o e
        refine ⟨o', hs2 b o' (fun q => ?_) e'⟩
        have lt := adl (wff_get b o e)
        have := adr q
        lia
  exact codeAny_compStart_list (loop _ rfl) (K.self 0 _ _ _ hst₁ (loop _ rfl))

/-- what may be gone through: the items of a datum list, or of a range -/
noncomputable def GoOk (o : Obj) : Prop := ∃ n, o.cls = .type n ∧ ["enumerate", "zip", "dict_itemiterator", "dict_reverseitemiterator", "odict_iterator", "itertools.zip_longest", "itertools.pairwise"].contains n = false
noncomputable def SrcOk (prog : Program) (w : World) (A : Around) (G : Gn) (X : Addr → Prop) {α : Type} (xs : List α) (enc : α → PyData) (v : Value) (s : Shared) : Prop :=
  xs.length ≤ sizeLine ∧ ∀ (Q : Value → Shared → Prop), (∀ oI fp P St, Walks prog w A s.heap.objs.size fp [s.heap.objs.size] xs.length P St → (∀ b ∈ fp, b < (s.heap.push oI).objs.size) → (∀ b ∈ fp, ¬ X b) → St 0 (s.heap.push oI) →
    (∀ j h, St j h → ∃ o, h.get? s.heap.objs.size = some o ∧ NotCode o ∧ GoOk o) → (∀ j v, P j v → ∃ a, xs[j]? = some a ∧ Rd X s.heap v (enc a)) → Q (.ref s.heap.objs.size) { s with heap := s.heap.push oI }) → wpAny (model prog w) A (pyIter v) Q FF s
structure EvS (prog : Program) (w : World) (A : Around) (G : Gn) (X W : Addr → Prop) (env : Env) (σ : List (Str × VD)) (cs : List (Addr × Cell)) {α : Type} (e : Expr) (xs : List α) (enc : α → PyData) : Prop where
  run :
  ∀ s, In G X W env σ cs s → wpAny (model prog w) A (eval e env) (fun v s' => QQ G s s' ∧ SrcOk prog w A G (Or2 X W) xs enc v s') FF s
theorem SrcOk.list {α : Type} {xs : List α} {enc : α → PyData} {v : Value} {s : Shared} (hh : A.handled = none) (i : Ok G X s) (r : Rd X s.heap v (.list (xs.map enc))) (hl : xs.length ≤ sizeLine) : SrcOk prog w A G X xs enc v s := by
  refine ⟨hl, fun Q h => ?_⟩
  obtain ⟨a, vs, n, rfl, nx, e, rl⟩ := Rd.list_inv r
  have hsz : vs.size = xs.length := by rw [Rd.size rl, List.length_map]
  have hL : s.heap.IsList a vs := ⟨_, e, rfl, n, rfl⟩
  have hlt : a < s.heap.objs.size := Heap.lt_size e
  refine wpAny_pyIter_list hL (h _ [s.heap.objs.size, a] (fun j v => vs[j]? = some v) (fun j h => h.IsListIter s.heap.objs.size a j ∧ h.IsList a vs) ?_ (fun b hb => ?_) (fun b hb => ?_) ⟨⟨_, Heap.get?_push_size _ rfl, rfl, rfl⟩, hL.push _⟩ (fun j h' st => ?_) fun j u hu => ?_)
  · have := Walks.list (prog := prog) (w := w) (A := A) hh s.heap.objs.size a (Nat.ne_of_lt hlt) vs
    rw [hsz] at this
    exact this
  · rw [Heap.size_push]
    rcases List.mem_cons.mp hb with rfl | hb
    · exact Nat.lt_succ_self _
    · rw [List.mem_singleton.mp hb]; exact Nat.lt_succ_of_lt hlt
  · rcases List.mem_cons.mp hb with rfl | hb
    · exact i.fresh
    · rw [List.mem_singleton.mp hb]; exact nx
  · obtain ⟨⟨o, q, q2, q3⟩, _⟩ := st
    refine ⟨o, q, fun fs x t e => ?_, _, q2, by decide⟩
    rw [q3] at e; cases e; simp
  · obtain ⟨d, hd, rd⟩ := rl.getL (by simpa using hu)
    rw [List.getElem?_map] at hd
    cases hx : xs[j]? with
    | none => rw [hx] at hd; cases hd
    | some a => rw [hx] at hd; cases hd; exact ⟨a, rfl, rd⟩
theorem EvS.list {α : Type} {e : Expr} {xs : List α} {enc : α → PyData} (hh : A.handled = none) (h : Ev prog w A G X W env σ cs e (.dat (.list (xs.map enc)))) (hl : xs.length ≤ sizeLine) : EvS prog w A G X W env σ cs e xs enc :=
  ⟨fun s i => wff (h.run s i) fun _ _ ⟨k, r⟩ => ⟨k, SrcOk.list hh (i.quiet k).ok r hl⟩⟩

set_option maxHeartbeats 1000000 in
theorem Ev.comp {α : Type} {elt iter : Expr} {x : Str} {px : Pos} {ifs : List Expr} {scope : Scope} {cl : List (Str × Addr)} {pos : Pos} {xs : List α} {enc : α → PyData} {p : α → Bool} {f : α → PyData} {σc : List (Str × VD)}
    (hclos : closureFor scope env = pure cl) (hcell : ∀ y ∈ scope.names, y.2 ≠ .cell) (hkind : scope.kind = .function) (hnames : ∀ y ∈ scope.names, y.2 = .local → scope.names.lookup y.1 = some .local) (hx : scope.names.lookup x = some .local)
    (hcl : ∀ n c, cl.lookup n = some c → ∃ n', n' = n ∧ env.cells.lookup n' = some c) (caps : Caps env cl (relabel scope env).names σ σc) (hit : EvS prog w A G X W env σ cs iter xs enc)
    (htest : ∀ C X' a, a ∈ xs → TrL prog w A G X' (Wn W C) (compEnvC scope cl C env) ((x, .dat (enc a)) :: σc) cs ifs (p a))
    (helt : ∀ C X' a, a ∈ xs → p a = true → Ev prog w A G X' (Wn W C) (compEnvC scope cl C env) ((x, .dat (enc a)) :: σc) cs elt (.dat (f a)))
    (hs : ∀ x, foldedSetIterable iter env x = pure x := by intro _; rfl) :
    Ev prog w A G X W env σ cs (.ListComp elt [⟨.Name x px, iter, ifs, 0⟩] scope pos) (.dat (.list ((xs.filter p).map f))) := by
  refine ⟨fun s i => ?_⟩
  rw [eval_ListComp]
  refine wpAny_comprehension_free (use := none) rfl hs hclos hkind hnames (wff (hit.run s i) fun xv s₁ ⟨k, hl, hsrc⟩ => wff (hsrc _ ?_) fun _ _ q => q)
  intro oI fp P St K hfp fpj hst hIo hP
  refine comp_core (i.quiet k) K hl hfp (fun b hb j => fpj b hb (.inl (i.jk b j))) hst (fun j h st => let ⟨o, e, n, _⟩ := hIo j h st; ⟨o, e, n⟩) hP hcell hkind hx hcl caps htest helt fun D C s' m q hD hC hDC hn r => ?_
  obtain ⟨nB, nj, nX⟩ := (i.quiet k).noB hC
  refine ⟨m, hn, fun h' hs' => ⟨k.trans ?_, ?_⟩⟩
  · obtain ⟨o, es, ep, ho, hd, _⟩ := hn
    exact q.drop hs'.extBut hC ho (.of fun _ => by rw [hd]; nofun) nB nj
  · exact Rd.weak (Rd.up r fun b o nb e => hs'.extBut b o (fun z => nb (.inr (.inr z))) e) fun b z => z.imp id .inl

set_option maxHeartbeats 1000000 in
theorem St1.comp {α : Type} {elt iter : Expr} {x y : Str} {px py : Pos} {ifs : List Expr} {scope : Scope} {cl : List (Str × Addr)} {pos spos : Pos} {xs : List α} {enc : α → PyData} {p : α → Bool} {f : α → PyData} {σc : List (Str × VD)}
    (hsw : swapsWith (.ListComp elt [⟨.Name x px, iter, ifs, 0⟩] scope pos) (some (.Name y py)) spos.line env = pure true) (hy : env.kindOf y = some .local)
    (hclos : closureFor scope env = pure cl) (hcell : ∀ y ∈ scope.names, y.2 ≠ .cell) (hkind : scope.kind = .function) (hnames : ∀ y ∈ scope.names, y.2 = .local → scope.names.lookup y.1 = some .local) (hx : scope.names.lookup x = some .local)
    (hcl : ∀ n c, cl.lookup n = some c → ∃ n', n' = n ∧ env.cells.lookup n' = some c) (caps : Caps env cl (relabel scope env).names σ σc) (hit : EvS prog w A G X W env σ cs iter xs enc)
    (htest : ∀ C X' a, a ∈ xs → TrL prog w A G X' (Wn W C) (compEnvC scope cl C env) ((x, .dat (enc a)) :: σc) cs ifs (p a))
    (helt : ∀ C X' a, a ∈ xs → p a = true → Ev prog w A G X' (Wn W C) (compEnvC scope cl C env) ((x, .dat (enc a)) :: σc) cs elt (.dat (f a)))
    (hs : ∀ x, foldedSetIterable iter env x = pure x := by intro _; rfl) :
    St1 prog w A G X W env σ cs (.Assign [.Name y py] (.ListComp elt [⟨.Name x px, iter, ifs, 0⟩] scope pos) spos) ((y, .dat (.list ((xs.filter p).map f))) :: σ) cs := by
  refine ⟨fun s i => ?_⟩
  rw [exec_Assign_Name_used _ _ _ _ hsw]
  refine wpAny_bind (wpAny_standAt (wpAny_bind ?_))
  show wpAny _ A (do let _ ← comprehension (.ListComp elt [⟨.Name x px, iter, ifs, 0⟩] scope pos) scope env _ (newList []) false (eval iter env) (some (PySem.assign (.Name y py) env))) _ _ s
  refine wpAny_bind (wpAny_mono (wpAny_comprehension_free (use := some (PySem.assign (.Name y py) env)) (Q := fun _ s' => Flow.next = .next ∧ In G X W env ((y, .dat (.list ((xs.filter p).map f))) :: σ) cs s' ∧ QS G W s s') rfl hs hclos hkind hnames
    (wff (hit.run s i) fun xv s₁ ⟨k, hl, hsrc⟩ => wff (hsrc _ ?_) fun _ _ q => q)) (fun _ s' hq => wpAny_pure (wpAny_pure hq)) fun _ _ e => e)
  intro oI fp P St K hfp fpj hst hIo hP
  refine comp_core (i.quiet k) K hl hfp (fun b hb j => fpj b hb (.inl (i.jk b j))) hst (fun j h st => let ⟨o, e, n, _⟩ := hIo j h st; ⟨o, e, n⟩) hP hcell hkind hx hcl caps htest helt fun D C s' m q hD hC hDC hn r => ?_
  have i1 := i.quiet k
  obtain ⟨nB, nj, nX⟩ := i1.noB hC
  obtain ⟨o, es, ep, ho, hd, hz⟩ := id hn
  have nc : NotCode o := .of fun _ => by rw [hd]; nofun
  have i2 := i1.widen q hC ho
  show wpAny _ A (PySem.assign (.Name y py) env (.ref D)) _ _ _
  refine wpAny_assign_Name (wpAny_mono (i2.store' (d := .dat (.list ((xs.filter p).map f))) (Rd.weak r fun b z => ?_) (.inl hy)) (fun _ s4 ⟨i4, a, ha, wa, k4⟩ => ?_) fun _ _ e => e)
  · rcases z with (z | z) | z
    · exact .inl z
    · exact .inr (.inr z)
    · exact .inr (.inl z)
  have nCa : C ≠ a := fun z => nX (.inr (z ▸ wa))
  have ho4 : s4.heap.get? C = some o := k4.keep C o nCa nj ho
  refine ⟨m, ⟨o, es, ep, ho4, hd, hz⟩, fun h' hs' => ⟨rfl, i4.forget i.jk nX hs'.extBut ho4 nc nB (i1.ceNe nX), ?_⟩⟩
  refine (QQ.to k).trans ?_
  have := (QQ.to (W := fun b => b = a) q).trans k4
  obtain ⟨⟨h4, tk4, rfl⟩, a4, b4, c4⟩ := this
  have ne : ∀ b o, s₁.heap.get? b = some o → b ≠ C := fun b o e q => by rw [q, hC] at e; cases e
  exact ⟨⟨h', _, rfl⟩, fun x o n j e => hs'.extBut x o (ne _ _ e) (a4 x o (fun z => n (z ▸ wa)) j e), fun x o e => let ⟨o', e'⟩ := b4 x o e; ⟨o', hs'.extBut x o' (ne _ _ e) e'⟩, fun g => (c4 g).but hs'.extBut nB nj ho4 nc⟩
end
end Mine
set_option maxRecDepth 100000
set_option maxHeartbeats 1000000
namespace Mine
open PySem PySem.W PyProof.Rows

section
variable {prog : Program} {w : World} {A : Around} {G : Gn} {X W : Addr → Prop} {env : Env} {σ : List (Str × VD)} {cs : List (Addr × Cell)} {s : Shared}

/-! ranges -/
theorem SrcOk.range {X : Addr → Prop} {r : Addr} {a b : Int} {n : Nat} {t u v : Tok} (hh : A.handled = none) (i : Ok G X s) (hr : IsRange s.heap r a b 1 t u v) (hsm : Builtin.Range.small a b 1 = true) (hn : Builtin.Range.rangeSize a b 1 = ((n : Nat) : Int)) (hl : n ≤ sizeLine) :
    SrcOk prog w A G X (List.range n) (fun k => PyData.int (a + (k : Int))) (.ref r) s := by
  refine ⟨by rw [List.length_range]; exact hl, fun Q h => ?_⟩
  refine wpAny_pyIter_range hr hsm (h _ [s.heap.objs.size] (fun j v => j < n ∧ ∃ t, v = .int (a + (j : Int)) t) (fun j h => IsRangeIter h s.heap.objs.size (a + (j : Nat) * 1) ((n : Int) - (j : Nat)) 1) ?_ (fun b hb => ?_) (fun b hb => ?_) ?_ (fun j h' st => ?_) fun j u hu => ?_)
  · rw [List.length_range]
    have W := (Walks.range (prog := prog) (w := w) (A := A) hh s.heap.objs.size a 1 n).bound
    exact { sub := W.sub, frame := W.frame, done := W.done, self := W.self,
            item := fun i s Q E hi st hQ => W.item i s Q E hi st fun v h' tk hP => hQ v h' tk ⟨hP.1, by obtain ⟨_, t, rfl⟩ := hP; exact ⟨t, by rw [Int.mul_one]⟩⟩ }
  · rw [List.mem_singleton.mp hb, Heap.size_push]; exact Nat.lt_succ_self _
  · rw [List.mem_singleton.mp hb]; exact i.fresh
  · show IsRangeIter _ _ _ _ _
    rw [hn]; simpa using Heap.get?_push_size _ rfl
  · have st' : h'.get? s.heap.objs.size = some _ := st
    refine ⟨_, st', fun fs x t e => ?_, _, rfl, by decide⟩
    cases e; simp [rawInt]
  · obtain ⟨hj, t, rfl⟩ := hu
    exact ⟨j, by simp [hj], .int _ _⟩
theorem range_small {a b : Int} (ha : 0 ≤ a) (hb : b < 2 ^ 30) (ha' : a < 2 ^ 30) (hb' : -(2 ^ 30) ≤ b) : Builtin.Range.small a b 1 = true := small_one (by lia) (by lia) (by lia) (by lia)
theorem EvS.range2 {f : Str} {p pos : Pos} {e1 e2 : Expr} {a b : Int} (hh : A.handled = none) (hf : Ev prog w A G X W env σ cs (.Name f p) (.is (.type "range"))) (h : EvL prog w A G X W env σ cs [e1, e2] [I a, I b]) (ha : 0 ≤ a) (hb : b < 2 ^ 20) (ha' : a < 2 ^ 20) (hb' : -(2 ^ 20) ≤ b)
    (hp : (backTo pos (starEach [e2] env)).any (·.1) = false := by rfl) (he : starEach [e1, e2] env = (false, eval e1 env) :: starEach [e2] env := by rfl) :
    EvS prog w A G X W env σ cs (.Call (.Name f p) [e1, e2] [] pos) (List.range (b - a).toNat) (fun k => PyData.int (a + (k : Int))) := by
  refine ⟨fun s i => ?_⟩
  refine Call_Name rfl (wff (hf.run s i) fun fv s₁ ⟨k, r⟩ => ?_)
  have r' : fv = .type "range" := r
  subst r'
  refine PyProof.Rows.callWith_type1 (wff (h.run pos s₁ (i.quiet k)) fun vs s₂ ⟨k2, r2⟩ => ?_) he hp
  rcases r2 with _ | ⟨ra, _ | ⟨rb, _ | _⟩⟩
  obtain ⟨t, rfl⟩ := Rd.int_inv ra; obtain ⟨u, rfl⟩ := Rd.int_inv rb
  refine call_range_2 ?_
  have kk : QQ G s₂ { s₂ with heap := s₂.heap.push { cls := .type "range", data := .fields #[.int a t, .int b u, .int 1 s₂.toks] }, toks := s₂.toks + 1 } := QS.up fun _ _ e => Heap.get?_push_of_some _ e
  refine ⟨(k.trans k2).trans kk, SrcOk.range hh (((i.quiet k).quiet k2).quiet kk).ok (IsRange.new ..) (range_small ha (by lia) (by lia) (by lia)) ?_ ?_⟩
  · rw [rangeSize_one]; split <;> lia
  · rw [sizeLine_eq]; lia
theorem EvS.range1 {f : Str} {p pos : Pos} {e1 : Expr} {b : Int} (hh : A.handled = none) (hf : Ev prog w A G X W env σ cs (.Name f p) (.is (.type "range"))) (h : EvL prog w A G X W env σ cs [e1] [I b]) (hb : b < 2 ^ 20) (hb' : -(2 ^ 20) ≤ b)
    (he : starEach [e1] env = (false, eval e1 env) :: starEach [] env := by rfl) :
    EvS prog w A G X W env σ cs (.Call (.Name f p) [e1] [] pos) (List.range b.toNat) (fun k => PyData.int (0 + (k : Int))) := by
  refine ⟨fun s i => ?_⟩
  refine Call_Name rfl (wff (hf.run s i) fun fv s₁ ⟨k, r⟩ => ?_)
  have r' : fv = .type "range" := r
  subst r'
  refine PyProof.Rows.callWith_type1 (wff (h.run pos s₁ (i.quiet k)) fun vs s₂ ⟨k2, r2⟩ => ?_) he
  rcases r2 with _ | ⟨rb, _ | _⟩
  obtain ⟨u, rfl⟩ := Rd.int_inv rb
  refine call_range_1 ?_
  have kk : QQ G s₂ { s₂ with heap := s₂.heap.push { cls := .type "range", data := .fields #[.int 0 s₂.toks, .int b u, .int 1 (s₂.toks + 1)] }, toks := s₂.toks + 1 + 1 } := QS.up fun _ _ e => Heap.get?_push_of_some _ e
  refine ⟨(k.trans k2).trans kk, SrcOk.range hh (((i.quiet k).quiet k2).quiet kk).ok (IsRange.new ..) (range_small (by lia) (by lia) (by lia) (by lia)) ?_ ?_⟩
  · rw [rangeSize_one]; split <;> lia
  · rw [sizeLine_eq]; lia
theorem EvS.conv {α β : Type} {e : Expr} {xs : List α} {enc : α → PyData} {ys : List β} {enc' : β → PyData} (h : EvS prog w A G X W env σ cs e xs enc) (g : β → α) (hx : xs = ys.map g) (he : ∀ b, b ∈ ys → enc (g b) = enc' b) : EvS prog w A G X W env σ cs e ys enc' := by
  refine ⟨fun s i => ?_⟩
  refine wff (h.run s i) fun v s' ⟨k, hl, f⟩ => ⟨k, by rw [hx, List.length_map] at hl; exact hl, fun Q hQ => f Q fun oI fp P St K h1 h2 h3 h4 hP => hQ oI fp P St ?_ h1 h2 h3 h4 fun j v hv => ?_⟩
  · rw [hx, List.length_map] at K; exact K
  · obtain ⟨a, e1, r⟩ := hP j v hv
    rw [hx, List.getElem?_map] at e1
    cases hy : ys[j]? with
    | none => rw [hy] at e1; cases e1
    | some b =>
      rw [hy] at e1
      cases e1
      exact ⟨b, rfl, by rw [← he b (List.mem_of_getElem? hy)]; exact r⟩

/-! targets -/
structure Tgt (prog : Program) (w : World) (A : Around) (G : Gn) (env : Env) (t : Expr) (d : PyData) (b : List (Str × VD)) : Prop where
  run :
  ∀ X W σ cs s v (E : Value → Shared → Prop), In G X W env σ cs s → Rd (Or2 X W) s.heap v d → wpAny (model prog w) A (assign t env v) (fun _ s' => In G X W env (b ++ σ) cs s' ∧ QS G W s s') E s
noncomputable def StoreOk (env : Env) (x : Str) : Prop := env.kindOf x = some .local ∨ (env.kindOf x = some .cell ∧ (env.cells.lookup x).isSome = true)
theorem Tgt.name {x : Str} {p : Pos} {d : PyData} (hk : StoreOk env x) : Tgt prog w A G env (.Name x p) d [(x, .dat d)] :=
  ⟨fun _ _ _ _ _ _ _ i r => wpAny_assign_Name (i.store (d := .dat d) r hk)⟩
theorem assign_names {X W : Addr → Prop} {cs : List (Addr × Cell)} {E : Value → Shared → Prop} : ∀ (xs : List (Str × Pos)) (vs : List Value) (ds : List PyData) (σ : List (Str × VD)) (s : Shared), (∀ x ∈ xs, StoreOk env x.1) → xs.length = ds.length → In G X W env σ cs s → RdL (Or2 X W) s.heap vs ds →
    wpAny (model prog w) A (assignInOrder (xs.map fun x => PySem.assign (.Name x.1 x.2) env) vs) (fun _ s' => In G X W env (((xs.map (·.1)).zip (ds.map VD.dat)).reverse ++ σ) cs s' ∧ QS G W s s') E s
  | [], vs, ds, σ, s, _, hl, i, r => by
    cases ds with
    | nil => cases r; exact wpAny_pure ⟨i, QS.refl s⟩
    | cons _ _ => simp at hl
  | x :: xs, vs, ds, σ, s, hk, hl, i, r => by
    cases r with
    | nil => simp at hl
    | @cons v d vs ds r p =>
      show wpAny _ A (do holding vs (PySem.assign (.Name x.1 x.2) env v); assignInOrder (xs.map fun x => PySem.assign (.Name x.1 x.2) env) vs) _ E s
      have st := i.store' (prog := prog) (w := w) (A := A) (E := E) (x := x.1) (d := .dat d) r (hk x List.mem_cons_self)
      refine wpAny_bind (wpAny_holding (wpAny_assign_Name (wpAny_mono st (fun _ s1 h1 => ?_) fun _ _ e => e)))
      obtain ⟨i1, a, _, wa, k1⟩ := h1
      have p1 : RdL (Or2 X W) s1.heap vs ds := p.up fun b o nb e => k1.keep b o (fun z => nb (.inr (z ▸ wa))) (fun j => nb (.inl (i.jk b j))) e
      refine wpAny_mono (assign_names xs vs ds _ s1 (fun y hy => hk y (List.mem_cons_of_mem _ hy)) (by simpa using hl) i1 p1) (fun _ s2 ⟨i2, k2⟩ => ⟨?_, (k1.weak fun b e => .inl (e ▸ wa)).trans k2⟩) fun _ _ e => e
      have e : ((((x :: xs).map (·.1)).zip ((d :: ds).map VD.dat)).reverse ++ σ) = (((xs.map (·.1)).zip (ds.map VD.dat)).reverse ++ (x.1, .dat d) :: σ) := by simp
      rw [e]; exact i2
theorem assignEach_names : ∀ (xs : List (Str × Pos)), assignEach (xs.map fun x => Expr.Name x.1 x.2) env = xs.map fun x => (false, PySem.assign (.Name x.1 x.2) env)
  | [] => rfl
  | x :: xs => by
    show (false, PySem.assign (.Name x.1 x.2) env) :: assignEach (xs.map fun x => Expr.Name x.1 x.2) env = _
    rw [assignEach_names xs]; rfl
theorem Tgt.tuple {xs : List (Str × Pos)} {k : Nat} {p : Pos} {ds : List PyData} (hh : A.handled = none) (hk : ∀ x ∈ xs, StoreOk env x.1) (hl : xs.length = ds.length) : Tgt prog w A G env (.Tuple (xs.map fun x => Expr.Name x.1 x.2) k p) (.tuple ds) (((xs.map (·.1)).zip (ds.map VD.dat)).reverse) := by
  refine ⟨fun X W σ cs s v E i r => ?_⟩
  obtain ⟨a, vs, n, rfl, nx, e, rl⟩ := Rd.tuple_inv r
  have e0 : PySem.assign (.Tuple (xs.map fun x => Expr.Name x.1 x.2) k p) env (.ref a) = (standAt p >>= fun _ => unpack (.ref a) (xs.map fun x => (false, PySem.assign (.Name x.1 x.2) env))) := by
    rw [← assignEach_names]; rfl
  rw [e0]
  refine wpAny_bind (wpAny_standAt ?_)
  unfold unpack
  have hf : (xs.map fun x => (false, PySem.assign (.Name x.1 x.2) env)).findIdx? (·.1) = none := by
    rw [List.findIdx?_eq_none_iff]; simp
  have hz : (xs.map fun x => (false, PySem.assign (.Name x.1 x.2) env)).length = vs.size := by rw [List.length_map, hl, Rd.size rl]
  have hm : (xs.map fun x => (false, PySem.assign (.Name x.1 x.2) env)).map (·.2) = xs.map fun x => PySem.assign (.Name x.1 x.2) env := by simp
  rw [hf, hz, hm]
  refine wpAny_bind (wpAny_holding (unpackItems_tuple hh ⟨_, e, rfl, n, rfl⟩ fun h' he => ?_))
  have up : ∀ b o, s.heap.get? b = some o → h'.get? b = some o := fun b o e => he b o (Nat.ne_of_lt (Heap.lt_size e)) e
  have k : QQ G s { s with heap := h' } := QS.up (tk := s.toks) up
  exact wpAny_mono (assign_names xs _ ds σ _ hk hl (i.quiet k) (rl.up fun b o _ e => up b o e)) (fun _ s2 ⟨i2, k2⟩ => ⟨i2, k.to.trans k2⟩) fun _ _ e => e

theorem In.narrow {X' : Addr → Prop} (i : In G X' W env σ cs s) (h : ∀ a, X a → X' a) (hj : ∀ a, G.jk a → X a) : In G X W env σ [] s :=
  have u : ∀ b, Or2 X W b → Or2 X' W b := fun b z => z.imp (h b) id
  ⟨i.gd, i.fr, i.fx, hj, fun a ha => i.hx a (ha.imp (h a) id), i.wb, fun y d e => let ⟨v, n, r⟩ := i.nm y d e; ⟨v, n, r.weak u⟩,
    (fun p hp => (nomatch hp)), List.nodup_nil⟩

theorem letGo_ok {t : Expr} {a : Addr} {v : Value} {o : Obj} {Q : Unit → Shared → Prop} {E : Value → Shared → Prop} (ho : s.heap.get? a = some o) (g : GoOk o) (h : Q () s) : wpAny (model prog w) A (letOwnedTupleGo t (.ref a) v) Q E s := by
  obtain ⟨n, hc, hn⟩ := g
  have key : ∀ b, wpAny (model prog w) A (do
      let o ← load a
      match o.cls, o.data with
      | .type n, .fields vs =>
        if ["enumerate", "zip", "dict_itemiterator", "dict_reverseitemiterator", "odict_iterator", "itertools.zip_longest", "itertools.pairwise"].contains n && vs[0]? == some (rawInt b) then
          rule "for.unpacks-the-owned-tuple"
          updateField a 0 .none
      | _, _ => pure ()) Q E s := by
    intro b
    refine wpAny_bind (wpAny_load ho ?_)
    rw [hc]
    cases hd : o.data with
    | fields vs =>
      dsimp only
      rw [hn]
      simp only [Bool.false_and, Bool.false_eq_true, if_false]
      exact wpAny_pure h
    | _ => exact wpAny_pure h
  cases t <;> first
    | exact wpAny_pure h
    | (cases v <;> first | exact wpAny_pure h | exact key _)

theorem Ex.forS {U : Un} {α : Type} {target iter : Expr} {body rest : List Stmt} {pos : Pos} {xs : List α} {enc : α → PyData} {bnd : α → List (Str × VD)} {inv : Nat → List (Str × VD)} {cinv : Nat → List (Addr × Cell)} {Q : Post} (Pj : Nat → Prop) (hP0 : Pj 0)
    (hit : EvS prog w A G X W env σ cs iter xs enc) (hb : ∀ a, a ∈ xs → Tgt prog w A G env target (enc a) (bnd a))
    (h0 : ∀ x d, (inv 0).lookup x = some d → σ.lookup x = some d) (hc0 : (cinv 0).Sublist cs) (hck : ∀ j, (cinv j).map (·.1) = (cinv 0).map (·.1))
    (turn : ∀ j a, xs[j]? = some a → Pj j → ∀ X', ExU U prog w A G X' W env (bnd a ++ inv j) (cinv j) body (fun fd W' σ' cs' =>
      ((fd = .next ∨ fd = .cont) ∧ Pj (j + 1) ∧ W' = W ∧ (∀ x d, (inv (j + 1)).lookup x = some d → σ'.lookup x = some d) ∧ (cinv (j + 1)).Sublist cs') ∨ (∃ d, fd = .ret d ∧ Q (.ret d) W' σ' [])))
    (hrest : Pj xs.length → ExU U prog w A G X W env (inv xs.length) (cinv xs.length) rest Q)
    (hs : ∀ x, foldedSetIterable iter env x = pure x := by intro _; rfl) :
    ExU U prog w A G X W env σ cs (.For target iter body [] pos :: rest) Q := by
  refine Ex.cons (Q1 := fun fd W' σ' cs' => (fd = .next ∧ Pj xs.length ∧ W' = W ∧ σ' = inv xs.length ∧ cs' = cinv xs.length) ∨ (∃ d, fd = .ret d ∧ Q (.ret d) W' σ' cs')) ?_ ?_ ?_
  · refine ⟨fun s i => ?_⟩
    refine wpK_For (hs := hs) (kff (wpAny.k (hit.run s i)) fun xv s₁ ⟨k, hl, hsrc⟩ => kff (wpAny.k (hsrc _ ?_)) fun _ _ q => q)
    intro oI fp P St K hfp fpj hst hIo hP
    have i1 := i.quiet k
    generalize hI : s₁.heap.objs.size = Ia at *
    have hf : s₁.heap.get? Ia = none := Heap.get?_none_of_le (Nat.le_of_eq hI)
    obtain ⟨nB, nj, nX⟩ := i1.noB hf
    have nWI : ¬ W Ia := fun z => nX (.inr z)
    obtain ⟨o0, ho0, _⟩ := hIo 0 _ hst
    have kp : QQ G s₁ { s₁ with heap := s₁.heap.push oI } := QS.push _
    have iw := i1.widen (C := Ia) kp hf ho0
    have hne : ∀ j, ∀ p, p ∈ cinv j → p.1 ≠ Ia := fun j p hp => by
      have : p.1 ∈ (cinv 0).map (·.1) := by rw [← hck j]; exact List.mem_map_of_mem hp
      obtain ⟨p', hp', e⟩ := List.mem_map.mp this
      rw [← e]
      exact i1.ceNe nX p' (hc0.subset hp')
    refine codeK_forLoop (fun c s' => ∃ j, j ≤ xs.length ∧ c = xs.length + 1 - j ∧ Pj j ∧ In G (Xn X Ia) W env (inv j) (cinv j) s' ∧ QS G W s₁ s' ∧ St j s'.heap) ?_ (xs.length + 1)
      ⟨0, Nat.zero_le _, rfl, hP0, (iw.less h0).lessC hc0, QQ.to kp, hst⟩
    rintro c s' ⟨j, hj, rfl, hPj, i', q', st'⟩
    have later : ∀ {a b : Shared}, QS G W a b → ∀ c ∈ fp, ∀ o, a.heap.get? c = some o → b.heap.get? c = some o := fun q c hc o e => q.keep c o (fun z => fpj c hc (.inr z)) (fun z => fpj c hc (.inl (i.jk c z))) e
    obtain ⟨oj, hoj, ncj, _⟩ := hIo _ _ st'
    by_cases hlt : j < xs.length
    · refine K.item j _ _ _ hlt st' fun v h₂ tk₂ hPv hst₂ hk₂ => ?_
      obtain ⟨a, ha, rv⟩ := hP j v hPv
      obtain ⟨o2, ho2, nc2, go2⟩ := hIo _ _ hst₂
      have hs2 : Heap.ExtBut Ia s'.heap h₂ := fun b o nb e => hk₂ b o (by simpa using nb) e
      have i2 : In G (Xn X Ia) W env (inv j) (cinv j) { s' with heap := h₂, toks := tk₂ } := i'.but hs2 hoj ho2 (.inr rfl) nWI nj nB ncj (hne j)
      have q1 : QS G W s₁ { s' with heap := h₂, toks := tk₂ } := q'.chain (W' := fun b => b = Ia) (fun b e => .inr (by rw [e]; exact hf)) (QS.but (tk := tk₂) hs2 hoj ho2 nB nj ncj rfl)
      have rv2 : Rd (Or2 (Xn X Ia) W) h₂ v (enc a) := by
        refine Rd.step (fun b o nb e => q1.keep b o (fun z => nb (.inr z)) (fun z => nb (.inl (i.jk b z))) e) (fun b o nb e z => ?_) rv
        rcases z with (z | z) | z
        · exact nb (.inl z)
        · rw [z, hf] at e; cases e
        · exact nb (.inr z)
      refine letGo_ok ho2 go2 (wpAny_mono ((hb a (List.mem_of_getElem? ha)).run _ _ _ _ _ _ _ i2 rv2) (fun _ s3 ⟨i3, k3⟩ => ?_) fun _ _ e => e)
      have st3 : St (j + 1) s3.heap := K.frame _ _ _ hst₂ fun c hc o e => later k3 c hc o e
      refine kff ((turn j a ha hPj _).run s3 i3) fun f s4 o4 => ?_
      obtain ⟨fd, W', σ', cs', post, i4, k4, hw4, rf⟩ := o4
      rcases post with ⟨hfd, hPn, rfl, hinv, hcinv⟩ | ⟨d, rfl, hq⟩
      · have fin : ∃ m, m < xs.length + 1 - j ∧ ∃ j', j' ≤ xs.length ∧ m = xs.length + 1 - j' ∧ Pj j' ∧ In G (Xn X Ia) W' env (inv j') (cinv j') s4 ∧ QS G W' s₁ s4 ∧ St j' s4.heap :=
          ⟨_, by lia, j + 1, by lia, rfl, hPn, (i4.less hinv).lessC hcinv, (q1.trans k3).trans k4, K.frame _ _ _ st3 fun c hc o e => later k4 c hc o e⟩
        cases f with
        | next => exact fin
        | cont => exact fin
        | brk => rcases hfd with rfl | rfl <;> exact rf.elim
        | ret v => rcases hfd with rfl | rfl <;> exact rf.elim
      · cases f with
        | ret v =>
          exact ⟨.ret d, W', σ', [], .inr ⟨d, rfl, hq⟩, i4.narrow (fun _ => .inl) i.jk, (QQ.to k).trans ((q1.trans k3).trans k4), fun b hb => (hw4 b hb).imp id fun e => fresh_back ((QQ.to k).trans (q1.trans k3)) e, VD.At.weak rf fun _ => .inl⟩
        | _ => exact rf.elim
    · obtain rfl : j = xs.length := Nat.le_antisymm hj (Nat.not_lt.mp hlt)
      refine K.done _ _ _ st' fun h₂ tk₂ hk₂ => ?_
      have hs2 : Heap.ExtBut Ia s'.heap h₂ := fun b o nb e => hk₂ b o (by simpa using nb) e
      have i2 := i'.forget (tk := tk₂) i.jk nX hs2 hoj ncj nB (hne _)
      refine wpAny.k (wpAny_execs_nil ⟨.next, W, _, _, .inl ⟨rfl, hPj, rfl, rfl, rfl⟩, i2, ?_, fun _ h => .inl h, trivial⟩)
      have ne : ∀ b o, s₁.heap.get? b = some o → b ≠ Ia := fun b o e q => by rw [q, hf] at e; cases e
      refine (QQ.to k).trans ?_
      obtain ⟨⟨h', tk', e'⟩, a', b', c'⟩ := q'
      exact ⟨⟨h₂, tk₂, by rw [e']⟩, fun b o n j e => hs2 b o (ne _ _ e) (a' b o n j e), fun b o e => let ⟨o', e'⟩ := b' b o e; ⟨o', hs2 b o' (ne _ _ e) e'⟩, fun g => (c' g).but hs2 nB nj hoj ncj⟩
  · rintro W' σ' cs' (⟨_, hp, rfl, rfl, rfl⟩ | ⟨d, e, _⟩)
    · exact hrest hp
    · cases e
  · rintro fd W' σ' cs' ne (⟨rfl, _⟩ | ⟨d, rfl, q⟩)
    · exact absurd rfl ne
    · exact q
end
end Mine
set_option maxRecDepth 100000
set_option maxHeartbeats 1000000
namespace Mine
open PySem PySem.W PyProof.Rows

section
variable {prog : Program} {w : World} {A : Around} {G : Gn} {X W : Addr → Prop} {env : Env} {σ : List (Str × VD)} {cs cs' : List (Addr × Cell)} {s : Shared}

theorem bindL_out {k : Str → Option NameKind} {x : Str} : ∀ (bs : List (Str × Value)) (m : Str → Option Value), x ∉ bs.map (·.1) → bindL k bs m x = m x
  | [], _, _ => rfl
  | (n, v) :: r, m, h => by
    rw [List.map_cons, List.mem_cons, not_or] at h
    unfold bindL
    rw [bindL_out r _ h.2]
    split
    · exact if_neg h.1
    · rfl
theorem bindC_out {k : Str → Option NameKind} {x : Str} : ∀ (bs : List (Str × Value)) (m : Str → Option Value), x ∉ bs.map (·.1) → bindC k bs m x = m x
  | [], _, _ => rfl
  | (n, v) :: r, m, h => by
    rw [List.map_cons, List.mem_cons, not_or] at h
    unfold bindC
    rw [bindC_out r _ h.2]
    split
    · rfl
    · exact if_neg h.1
theorem bindL_get {k : Str → Option NameKind} {x : Str} {v : Value} (hk : k x = some .local) : ∀ (bs : List (Str × Value)) (m : Str → Option Value), (bs.map (·.1)).Nodup → (x, v) ∈ bs → bindL k bs m x = some v
  | (n, u) :: r, m, hn, hm => by
    rw [List.map_cons, List.nodup_cons] at hn
    unfold bindL
    rcases List.mem_cons.mp hm with e | hm
    · cases e
      rw [bindL_out r _ hn.1, if_pos hk, if_pos rfl]
    · exact bindL_get hk r _ hn.2 hm
theorem bindC_get {k : Str → Option NameKind} {x : Str} {v : Value} (hk : k x ≠ some .local) : ∀ (bs : List (Str × Value)) (m : Str → Option Value), (bs.map (·.1)).Nodup → (x, v) ∈ bs → bindC k bs m x = some v
  | (n, u) :: r, m, hn, hm => by
    rw [List.map_cons, List.nodup_cons] at hn
    unfold bindC
    rcases List.mem_cons.mp hm with e | hm
    · cases e
      rw [bindC_out r _ hn.1, if_neg hk, if_pos rfl]
    · exact bindC_get hk r _ hn.2 hm
theorem at_lookup {h : Heap} : ∀ {bs : List (Str × Value)} {σ : List (Str × VD)}, bs.map (·.1) = σ.map (·.1) → AtL G X h (bs.map (·.2)) (σ.map (·.2)) → ∀ {x : Str} {d : VD}, σ.lookup x = some d → ∃ v, (x, v) ∈ bs ∧ d.At G X h v
  | [], [], _, _, _, _, e => by simp at e
  | (n, v) :: bs, (y, d') :: σ, hn, r, x, d, e => by
    cases r with
    | cons r p =>
      rw [List.map_cons, List.map_cons, List.cons.injEq] at hn
      have hn1 : n = y := hn.1
      rw [List.lookup_cons] at e
      cases hb : x == y with
      | true =>
        rw [hb] at e; cases e
        refine ⟨v, ?_, r⟩
        rw [beq_iff_eq.mp hb, ← hn1]; exact .head _
      | false =>
        rw [hb] at e
        obtain ⟨u, hu, ru⟩ := at_lookup hn.2 p e
        exact ⟨u, .tail _ hu, ru⟩

structure Def (G : Gn) (a : Addr) (fd : FuncData) (body : List Stmt) : Prop where
  obj : ∃ o, G.B.get? a = some o ∧ o.data = .func fd
  code : G.B.CodeRec fd.code fd.qualname
  body : fd.body = .stmts body
  clo : fd.closure = []
  gl : fd.globals = mainGlobals
  bu : fd.builtins = builtinsNs
  co : fd.scope.isCoroutine = false
  gen : fd.scope.isGenerator = false
  kind : fd.scope.kind = .function

/-- what a call of a function does -/
noncomputable def FnU (U : Un) (Pa : Around → Prop) (prog : Program) (w : World) (G : Gn) (fv : Value) (Wr : List Addr) (cs cs' : List (Addr × Cell)) (kw : List (Str × Value)) (xs : List VD) (z : VD) : Prop :=
  ∀ A X s vs, Pa A → Ok G X s → (∀ a, a ∈ Wr → X a ∧ G.B.get? a = none ∧ ¬ G.jk a) → (∀ p, p ∈ cs → X p.1 ∧ ¬ G.jk p.1 ∧ p.2.At X s.heap p.1) → (cs.map (·.1)).Nodup → AtL G X s.heap vs xs →
    wpK U (model prog w) A (call fv vs kw) (fun v s' => QS G (fun b => b ∈ Wr) s s' ∧ (∀ p, p ∈ cs' → p.2.At X s'.heap p.1) ∧ z.At G X s'.heap v) FF s
noncomputable abbrev FnG (prog : Program) (w : World) (G : Gn) (fv : Value) (n : Nat) (Wr : List Addr) (cs cs' : List (Addr × Cell)) (kw : List (Str × Value)) (xs : List VD) (z : VD) : Prop :=
  FnU Un.all (fun A => Aok A n) prog w G fv Wr cs cs' kw xs z
noncomputable abbrev callW (fd : FuncData) (L a : Addr) (Wr : List Addr) : Addr → Prop := fun b => Fx (callEnvC fd L a) b ∨ b ∈ Wr
theorem call_of_def {U : Un} {a : Addr} {fd : FuncData} {body : List Stmt} {Wr : List Addr} {kw : List (Str × Value)} {xs : List VD} {vs : List Value} {Q : Post} {R : Value → Shared → Prop} (hG : GOk G) (D : Def G a fd body) (hnd : (σ.map (·.1)).Nodup)
    (hkind : ∀ k, ∀ x ∈ σ.map (·.1), fd.scope.names.lookup x = some .local ∨ (fd.scope.names.lookup x = some .cell ∧ ((cellsFrom k fd.scope.names []).lookup x).isSome = true))
    (hbind : ∀ A X s vs, Ok G X s → AtL G X s.heap vs xs → wpAny (model prog w) A (bindArgs fd ⟨vs, kw⟩) (fun bs s' => QQ G s s' ∧ bs.map (·.1) = σ.map (·.1) ∧ AtL G X s'.heap (bs.map (·.2)) (σ.map (·.2))) FF s)
    (hp : A.depth < recursionLimit) (i : Ok G X s) (hWr : ∀ a, a ∈ Wr → X a ∧ G.B.get? a = none ∧ ¬ G.jk a) (hcs : ∀ p, p ∈ cs → X p.1 ∧ ¬ G.jk p.1 ∧ p.2.At X s.heap p.1) (hcn : (cs.map (·.1)).Nodup) (hvs : AtL G X s.heap vs xs)
    (hbody : ∀ L, ExU U prog w (A.deeper (callEnvC fd L a)) G X (callW fd L a Wr) (callEnvC fd L a) σ cs body Q)
    (hfin : ∀ L f W' σ' cs'' s₃, (∀ b, Fx (callEnvC fd L a) b → s.heap.get? b = none) → Q f W' σ' cs'' → In G X W' (callEnvC fd L a) σ' cs'' s₃ → QS G (fun b => b ∈ Wr) s s₃ → (∀ b, W' b → b ∈ Wr ∨ s.heap.get? b = none) → ∀ v, (match f with | .ret d => d.At G X s₃.heap v | .next => v = .none | _ => True) → R v s₃) :
    codeK U (model prog w) A (.call (.ref a) ⟨vs, kw⟩) (fun r s' => match r with | .ok (.ret v) => R v s' | .ok _ => False | .error e => FF e s') s := by
  obtain ⟨o, ho, hd⟩ := D.obj
  refine codeK_call_function hp (i.gd.fr.keep _ _ ho) hd D.co D.gen D.body (D.code.keeps i.gd.fr.keep) ?_
  rw [D.clo]
  refine wff (hbind A.in1 X s vs i hvs) fun bs s₁ ⟨k1, hbn, hbv⟩ => ?_
  have i1 := i.quiet k1
  refine wpAny_newFunctionEnv_cells D.kind (fun x hx => ?_) fun env he s₂ c => ?_
  · exact hkind _ x.1 (by rw [← hbn]; exact List.mem_map_of_mem hx)
  subst he
  obtain ⟨h2, tk2, e2, u2⟩ := c.done
  have k2 : QQ G s₁ s₂ := by rw [e2]; exact QS.up u2
  have i2 := i1.quiet k2
  refine ⟨hG.nolimit.keeps i2.gd.fr.keep, codeK_func ?_⟩
  have hL : s₁.heap.get? s₁.heap.objs.size = none := Heap.get?_none_of_le (Nat.le_refl _)
  have fxn : ∀ b, Fx (callEnvC fd s₁.heap.objs.size a) b → s₁.heap.get? b = none := fun b hb => by
    rcases hb with hb | ⟨m, hb⟩
    · rw [hb]; exact hL
    · exact Heap.get?_none_of_le (Nat.le_of_lt (c.above m b (mem_of_lookup hb)))
  have fB : ∀ b, s₁.heap.get? b = none → G.B.get? b = none ∧ ¬ G.jk b := fun b hb => by
    refine ⟨?_, fun j => ?_⟩
    · cases e : G.B.get? b with
      | none => rfl
      | some o => rw [i1.gd.fr.keep b o e] at hb; cases hb
    · obtain ⟨o, e⟩ := i1.hx b (i1.jk b j); rw [hb] at e; cases e
  have up12 : ∀ b o, s₁.heap.get? b = some o → s₂.heap.get? b = some o := by rw [e2]; exact u2
  have hin : In G X (callW fd s₁.heap.objs.size a Wr) (callEnvC fd s₁.heap.objs.size a) σ cs s₂ := by
    refine ⟨i2.gd, ⟨D.kind, D.gl, D.bu, ⟨_, c.toInCall.ns⟩, fun m b e => ⟨_, c.cell m b e⟩, fun m m' b e e' => name_of_addr c.apart (mem_of_lookup e) (mem_of_lookup e')⟩, fun b hb => .inl hb, i.jk, fun b hb => ?_, fun b hb => ?_, fun x d e => ?_, fun p hp => ?_, hcn⟩
    · rcases hb with hb | hb | hb
      · exact i2.hx b hb
      · rcases hb with hb | ⟨m, hb⟩
        · obtain ⟨oo, _, _, e, _⟩ := c.toInCall.ns
          exact ⟨oo, by rw [hb]; exact e⟩
        · obtain ⟨oo, e, _⟩ := c.cell m b hb
          exact ⟨oo, e⟩
      · exact i2.hx b (hWr b hb).1
    · rcases hb with hb | hb
      · exact fB b (fxn b hb)
      · exact (hWr b hb).2
    · obtain ⟨v, hv, rv⟩ := at_lookup hbn hbv e
      have hnd' : (bs.map (·.1)).Nodup := by rw [hbn]; exact hnd
      refine ⟨v, ?_, rv.step (fun b o _ e => up12 b o e) fun b o nb e q => ?_⟩
      · rcases hkind (s₁.heap.objs.size + 1) x (by rw [← hbn]; exact List.mem_map_of_mem (f := (·.1)) hv) with hk | ⟨hk, hc⟩
        · exact .inl ⟨hk, _, c.toInCall.ns, bindL_get hk _ _ hnd' hv⟩
        · obtain ⟨b, hb⟩ := Option.isSome_iff_exists.mp hc
          refine .inr ⟨.inl hk, b, hb, ?_⟩
          have := c.cell x b hb
          rw [bindC_get (by show fd.scope.names.lookup x ≠ _; rw [hk]; nofun) _ _ hnd' hv] at this
          exact this
      · rcases q with q | q | q
        · exact nb q
        · rw [fxn b q] at e; cases e
        · exact nb (hWr b q).1
    · obtain ⟨x1, x2, x3⟩ := hcs p hp
      have hp1 : p.2.At X s₁.heap p.1 := x3.step (fun b o nb e => k1.keep b o id (fun j => nb (i.jk b j)) e) (fun _ _ n _ => n) fun o e => k1.keep _ o id x2 e
      refine ⟨⟨.inl x1, x2⟩, fun f => ?_, hp1.step (fun b o _ e => up12 b o e) (fun b o nb e q => ?_) fun o e => up12 _ o e⟩
      · obtain ⟨o, e, _⟩ := hp1.notFields
        rw [fxn _ f] at e; cases e
      · rcases q with q | q | q
        · exact nb q
        · rw [fxn b q] at e; cases e
        · exact nb (hWr b q).1
  refine kff ((hbody s₁.heap.objs.size).run s₂ hin) fun f s₃ ⟨f', W', σ', cs'', hf, i3, k3, hw3, rf⟩ => ?_
  have fx0 : ∀ b, Fx (callEnvC fd s₁.heap.objs.size a) b → s.heap.get? b = none := fun b hb => fresh_back k1 (fxn b hb)
  have q3 : QS G (fun b => b ∈ Wr) s s₃ := (QQ.to (k1.trans k2)).chain (W' := callW fd s₁.heap.objs.size a Wr) (fun b hb => hb.elim (fun hb => .inr (fx0 b hb)) .inl) k3
  have w3 : ∀ b, W' b → b ∈ Wr ∨ s.heap.get? b = none := fun b hb => (hw3 b hb).elim (fun h => h.elim (fun h => .inr (fx0 b h)) .inl) fun e => .inr (fresh_back (k1.trans k2) e)
  have fin := hfin s₁.heap.objs.size f' W' σ' cs'' s₃ fx0 hf i3 q3 w3
  cases f' with
  | ret d => cases f <;> first | exact rf.elim | exact fin _ rf
  | next => cases f <;> first | exact rf.elim | exact fin _ rfl
  | brk => cases f <;> first | exact rf.elim | exact fin _ trivial
  | cont => cases f <;> first | exact rf.elim | exact fin _ trivial
theorem FnU.of_def {U : Un} {Pa : Around → Prop} {a : Addr} {fd : FuncData} {body : List Stmt} {Wr : List Addr} {kw : List (Str × Value)} {xs : List VD} {z : VD} (hG : GOk G) (D : Def G a fd body) (hnd : (σ.map (·.1)).Nodup)
    (hkind : ∀ k, ∀ x ∈ σ.map (·.1), fd.scope.names.lookup x = some .local ∨ (fd.scope.names.lookup x = some .cell ∧ ((cellsFrom k fd.scope.names []).lookup x).isSome = true))
    (hbind : ∀ A X s vs, Ok G X s → AtL G X s.heap vs xs → wpAny (model prog w) A (bindArgs fd ⟨vs, kw⟩) (fun bs s' => QQ G s s' ∧ bs.map (·.1) = σ.map (·.1) ∧ AtL G X s'.heap (bs.map (·.2)) (σ.map (·.2))) FF s)
    (hp : ∀ A, Pa A → A.depth < recursionLimit)
    (hbody : ∀ A L X, Pa A → ExU U prog w (A.deeper (callEnvC fd L a)) G X (callW fd L a Wr) (callEnvC fd L a) σ cs body (fun f W' σ' cs'' => (f = .ret z ∨ (f = .next ∧ z = .dat .none)) ∧ (∀ p, p ∈ cs' → p ∈ cs''))) :
    FnU U Pa prog w G (.ref a) Wr cs cs' kw xs z := by
  intro A X s vs hA i hWr hcs hcn hvs
  refine wpK_call (call_of_def hG D hnd hkind hbind (hp A hA) i hWr hcs hcn hvs (fun L => hbody A L X hA) fun L f W' σ' cs'' s₃ _ ⟨hf, hcs'⟩ i3 q3 _ v rv => ⟨q3, fun p hp => ?_, ?_⟩)
  · obtain ⟨_, _, r⟩ := i3.ce p (hcs' p hp)
    exact r.step (fun _ _ _ e => e) (fun b _ n _ q => n (.inl q)) fun _ e => e
  · rcases hf with rfl | ⟨rfl, rfl⟩
    · exact rv
    · rw [show v = .none from rv]; exact .none
theorem FnG.of_def {a : Addr} {fd : FuncData} {body : List Stmt} {n : Nat} {Wr : List Addr} {kw : List (Str × Value)} {xs : List VD} {z : VD} (hG : GOk G) (D : Def G a fd body) (hnd : (σ.map (·.1)).Nodup)
    (hkind : ∀ k, ∀ x ∈ σ.map (·.1), fd.scope.names.lookup x = some .local ∨ (fd.scope.names.lookup x = some .cell ∧ ((cellsFrom k fd.scope.names []).lookup x).isSome = true))
    (hbind : ∀ A X s vs, Ok G X s → AtL G X s.heap vs xs → wpAny (model prog w) A (bindArgs fd ⟨vs, kw⟩) (fun bs s' => QQ G s s' ∧ bs.map (·.1) = σ.map (·.1) ∧ AtL G X s'.heap (bs.map (·.2)) (σ.map (·.2))) FF s)
    (hbody : ∀ A L X, Aok A n → Ex prog w A G X (callW fd L a Wr) (callEnvC fd L a) σ cs body (fun f W' σ' cs'' => (f = .ret z ∨ (f = .next ∧ z = .dat .none)) ∧ (∀ p, p ∈ cs' → p ∈ cs''))) :
    FnG prog w G (.ref a) (n + 1) Wr cs cs' kw xs z :=
  FnU.of_def hG D hnd hkind hbind (fun _ hA => by have := hA.dp; lia) fun _ L X hA => hbody _ L X (hA.deeper _)
end
end Mine
set_option maxRecDepth 100000
set_option maxHeartbeats 1000000
namespace Mine
open PySem PySem.W PyProof.Rows

section
variable {prog : Program} {w : World} {A : Around} {G : Gn} {X W : Addr → Prop} {env : Env} {σ : List (Str × VD)} {cs cs' ccs ccs' : List (Addr × Cell)} {s : Shared}

/-- arguments -/
structure EvA (prog : Program) (w : World) (A : Around) (G : Gn) (X W : Addr → Prop) (env : Env) (σ : List (Str × VD)) (cs : List (Addr × Cell)) (es : List Expr) (kws : List Keyword) (xs : List VD) (kw : List (Str × Value)) : Prop where
  run :
  ∀ f pos s, In G X W env σ cs s → wpAny (model prog w) A (evalArgs f true (backTo pos (starEach es env)) (backToKw pos (keywordEach kws env))) (fun a s' => QQ G s s' ∧ a.kw = kw ∧ AtL G (Or2 X W) s'.heap a.pos xs) FF s
theorem EvA.nil : EvA prog w A G X W env σ cs [] [] [] [] := ⟨fun _ _ s _ => PySem.evalArgs_none ⟨QS.refl s, rfl, .nil⟩⟩
theorem EvA.plain {e : Expr} {es : List Expr} {xs : List VD} (h : EvL prog w A G X W env σ cs (e :: es) xs) (he : starEach (e :: es) env = (false, eval e env) :: starEach es env := by rfl) : EvA prog w A G X W env σ cs (e :: es) [] xs [] := by
  refine ⟨fun f pos s i => ?_⟩
  have h' := h.run pos s i
  rw [he] at h' ⊢
  exact Calls.evalArgs_plain (wff h' fun vs s' ⟨k, r⟩ => ⟨k, rfl, r⟩)
theorem EvA.kwBool {e : Expr} {es : List Expr} {xs : List VD} {n : Str} {b : Bool} {k : Nat} {p q : Pos} (h : EvL prog w A G X W env σ cs (e :: es) xs) (he : starEach (e :: es) env = (false, eval e env) :: starEach es env := by rfl) :
    EvA prog w A G X W env σ cs (e :: es) [{ arg := some n, value := .Constant (.bool b) k p, pos := q }] xs [(n, .bool b)] := by
  refine ⟨fun f pos s i => ?_⟩
  have h' := h.run pos s i
  rw [he] at h' ⊢
  refine evalArgs_kw rfl (wff h' fun vs s₁ ⟨k1, r⟩ => ?_)
  refine wpAny_evalAll_cons (wpAny_bind (wpAny_Constant_bool (wpAny_bind (wpAny_standAt (wpAny_pure (wpAny_evalAll_nil ⟨k1, rfl, r⟩))))))

noncomputable def FnObj (G : Gn) (f : Addr) : Prop := ∃ o fd, G.B.get? f = some o ∧ o.data = .func fd
/-- a method stands in the class of Headers -/
noncomputable def Meth (prog : Program) (w : World) (G : Gn) (name : Str) (f : Addr) : Prop :=
  ∀ A X s v a pl (Q : Value × List Value → Shared → Prop), Gd G s.heap → HdrAt G X s.heap v a → Q (.ref f, [v]) s → wpAny (model prog w) A (getMethod v name pl) Q FF s
/-- the cells that a callee asks for -/
structure CsOk (X W : Addr → Prop) (env : Env) (Wr : List Addr) (cs cs' ccs ccs' : List (Addr × Cell)) : Prop where
  sub : ∀ p, p ∈ ccs → p ∈ cs
  nd : (cs.map (·.1)).Nodup → (ccs.map (·.1)).Nodup
  wr : ∀ a, a ∈ Wr → W a
  fx : ∀ a, a ∈ Wr → a ∈ cs.map (·.1)
  out : ∀ p, p ∈ cs' → p ∈ ccs' ∨ (p ∈ cs ∧ p.1 ∉ Wr)
  keys : cs'.map (·.1) = cs.map (·.1)

theorem In.called (i : In G X W env σ cs s) {Wr : List Addr} {s' : Shared} (c : CsOk X W env Wr cs cs' ccs ccs') (q : QS G (fun b => b ∈ Wr) s s') (hc : ∀ p, p ∈ ccs' → p.2.At (Or2 X W) s'.heap p.1) : In G X W env σ cs' s' ∧ QS G W s s' := by
  have nfx : ∀ a, a ∈ Wr → ¬ Fx env a := fun a h f => by
    obtain ⟨p, hp, e⟩ := List.mem_map.mp (c.fx a h)
    exact (i.ce p hp).2.1 (e ▸ f)
  have kx : ∀ b o, ¬ Or2 X W b → s.heap.get? b = some o → s'.heap.get? b = some o := fun b o n e => q.keep b o (fun z => n (.inr (c.wr b z))) (fun j => n (.inl (i.jk b j))) e
  have kf : ∀ b o, Fx env b → s.heap.get? b = some o → s'.heap.get? b = some o := fun b o f e => q.keep b o (fun z => nfx b z f) (i.wb b (i.fx b f)).2 e
  refine ⟨⟨q.gd i.gd, i.fr.up kf, i.fx, i.jk, fun a ha => let ⟨o, e⟩ := i.hx a ha; q.live a o e, i.wb, fun x d e => ?_, fun p hp => ?_, by rw [c.keys]; exact i.ap⟩, q.weak fun a h => .inl (c.wr a h)⟩
  · obtain ⟨v, n, r⟩ := i.nm x d e
    exact ⟨v, n.up kf, r.step kx fun _ _ n _ => n⟩
  · have hk : p.1 ∈ cs.map (·.1) := by rw [← c.keys]; exact List.mem_map_of_mem hp
    obtain ⟨p', hp', e⟩ := List.mem_map.mp hk
    have z := i.ce p' hp'
    rw [e] at z
    refine ⟨z.1, z.2.1, ?_⟩
    rcases c.out p hp with h | ⟨h, n⟩
    · exact hc p h
    · exact (i.ce p h).2.2.step kx (fun _ _ n _ => n) fun o e => q.keep _ o n z.1.2 e

theorem FnG.run {fv : Value} {n : Nat} {Wr : List Addr} {kw : List (Str × Value)} {xs : List VD} {z : VD} {vs : List Value} (h : FnG prog w G fv n Wr ccs ccs' kw xs z) (hA : Aok A n) (i : In G X W env σ cs s) (c : CsOk X W env Wr cs cs' ccs ccs') (r : AtL G (Or2 X W) s.heap vs xs) :
    wpAny (model prog w) A (call fv vs kw) (fun v s' => In G X W env σ cs' s' ∧ QS G W s s' ∧ QS G (fun b => b ∈ Wr) s s' ∧ z.At G (Or2 X W) s'.heap v) FF s := by
  refine wff (wpK.any (h A (Or2 X W) s vs hA i.ok (fun a ha => ⟨.inr (c.wr a ha), i.wb a (c.wr a ha)⟩) (fun p hp => ⟨(i.ce p (c.sub p hp)).1.1, (i.ce p (c.sub p hp)).1.2, (i.ce p (c.sub p hp)).2.2⟩) (c.nd i.ap) r)) fun v s' ⟨q, hc, rz⟩ => ?_
  have := i.called c q hc
  exact ⟨this.1, this.2, q, rz⟩
theorem CsOk.quiet (h1 : ∀ p, p ∈ ccs → p ∈ cs) (h2 : (cs.map (·.1)).Nodup → (ccs.map (·.1)).Nodup) : CsOk X W env [] cs cs ccs ccs :=
  ⟨h1, h2, fun _ h => absurd h List.not_mem_nil, fun _ h => absurd h List.not_mem_nil, fun p hp => .inr ⟨hp, List.not_mem_nil⟩, rfl⟩
theorem CsOk.none : CsOk X W env [] cs cs [] [] := .quiet (fun _ h => absurd h List.not_mem_nil) fun _ => List.nodup_nil
theorem qs_nil {s s' : Shared} (q : QS G (fun b => b ∈ ([] : List Addr)) s s') : QQ G s s' := q.weak fun _ h => nomatch h

theorem Ev.call {f : Str} {p pos : Pos} {es : List Expr} {kws : List Keyword} {a : Addr} {n : Nat} {xs : List VD} {kw : List (Str × Value)} {z : VD} (hf : Ev prog w A G X W env σ cs (.Name f p) (.is (.ref a))) (hfo : FnObj G a) (he : EvA prog w A G X W env σ cs es kws xs kw)
    (h : FnG prog w G (.ref a) n [] ccs ccs kw xs z) (hA : Aok A n) (c : CsOk X W env [] cs cs ccs ccs) : Ev prog w A G X W env σ cs (.Call (.Name f p) es kws pos) z := by
  refine ⟨fun s i => ?_⟩
  obtain ⟨o, fd, ho, hd⟩ := hfo
  refine wpAny_Call_Name_kw (wff (hf.run s i) fun fv s₁ ⟨k, r⟩ => ?_)
  have r' : fv = .ref a := r
  subst r'
  refine callWith_function_kw (wff (he.run _ pos s₁ (i.quiet k)) fun x s₂ ⟨k2, hk, r2⟩ => ⟨⟨((i.quiet k).quiet k2).gd.fr.keep _ _ ho, hd⟩, ?_⟩)
  rw [hk, List.nil_append]
  exact wff (h.run hA ((i.quiet k).quiet k2) c r2) fun v s₃ ⟨_, _, q, rz⟩ => ⟨(k.trans k2).trans (qs_nil q), rz⟩

theorem methCall {o : Expr} {name : Str} {apos pos : Pos} {es : List Expr} {kws : List Keyword} {f : Addr} {hd : Addr} {xs : List VD} {kw : List (Str × Value)} {Q : Value → Shared → Prop} {E : Value → Shared → Prop} (ho : Ev prog w A G X W env σ cs o (.hdr hd)) (hm : Meth prog w G name f) (hfo : FnObj G f)
    (he : EvA prog w A G X W env σ cs es kws xs kw) (i : In G X W env σ cs s)
    (h : ∀ v vs s', QQ G s s' → In G X W env σ cs s' → AtL G (Or2 X W) s'.heap (v :: vs) (.hdr hd :: xs) → wpAny (model prog w) A (call (.ref f) (v :: vs) kw) Q FF s')
    (hbase : attributeBase o name env (eval o env) = eval o env) (hfew : methodCallForm (es.length + kws.length) (backTo pos (starEach es env)) (backToKw pos (keywordEach kws env)) = true) (hline : (apos.endLine == pos.line) = true) :
    wpAny (model prog w) A (eval (.Call (.Attribute o name apos) es kws pos) env) Q E s := by
  obtain ⟨oo, fd, hoo, hdd⟩ := hfo
  rw [arm_eval_Call, hbase]
  refine wpAny_bind (wff (ho.run s i) fun v s₁ ⟨k, r⟩ => wpAny_bind (wpAny_standAt ?_))
  have i1 := i.quiet k
  have hpos : methodCallPos true o env apos pos = pure pos := by unfold methodCallPos; simp [hline]
  unfold methodCall
  rw [hfew]
  refine wpAny_bind (wpAny_holding (wff (hm A (Or2 X W) s₁ v hd _ (fun r s' => r = (.ref f, [v]) ∧ s' = s₁) i1.gd r ⟨rfl, rfl⟩) fun fr s' hfr => ?_))
  obtain ⟨rfl, rfl⟩ := hfr
  refine wpAny_bind (wpAny_of_eq hpos ?_)
  refine callWith_function_kw (wff (he.run _ pos s' i1) fun x s₂ ⟨k2, hk, r2⟩ => ⟨⟨(i1.quiet k2).gd.fr.keep _ _ hoo, hdd⟩, ?_⟩)
  rw [hk]
  have := r.quiet i1.ok k2
  exact wff (h v x.pos s₂ (k.trans k2) (i1.quiet k2) (.cons this r2)) fun _ _ q => q
theorem Ev.meth {o : Expr} {name : Str} {apos pos : Pos} {es : List Expr} {kws : List Keyword} {f : Addr} {n : Nat} {hd : Addr} {xs : List VD} {kw : List (Str × Value)} {z : VD} (ho : Ev prog w A G X W env σ cs o (.hdr hd)) (hm : Meth prog w G name f) (hfo : FnObj G f)
    (he : EvA prog w A G X W env σ cs es kws xs kw) (h : FnG prog w G (.ref f) n [] ccs ccs kw (.hdr hd :: xs) z) (hA : Aok A n) (c : CsOk X W env [] cs cs ccs ccs)
    (hbase : attributeBase o name env (eval o env) = eval o env := by rfl) (hfew : methodCallForm (es.length + kws.length) (backTo pos (starEach es env)) (backToKw pos (keywordEach kws env)) = true := by rfl) (hline : (apos.endLine == pos.line) = true := by rfl) :
    Ev prog w A G X W env σ cs (.Call (.Attribute o name apos) es kws pos) z :=
  ⟨fun _ i => methCall ho hm hfo he i (fun _ _ _ k i' r => wff (h.run hA i' c r) fun _ _ ⟨_, _, q, rz⟩ => ⟨k.trans (qs_nil q), rz⟩) hbase hfew hline⟩
/-- o.name(..) for its deed -/
theorem St1.meth {o : Expr} {name : Str} {apos cpos pos : Pos} {es : List Expr} {kws : List Keyword} {f : Addr} {n : Nat} {hd : Addr} {Wr : List Addr} {xs : List VD} {kw : List (Str × Value)} (ho : Ev prog w A G X W env σ cs o (.hdr hd)) (hm : Meth prog w G name f) (hfo : FnObj G f)
    (he : EvA prog w A G X W env σ cs es kws xs kw) (h : FnG prog w G (.ref f) n Wr ccs ccs' kw (.hdr hd :: xs) (.dat .none)) (hA : Aok A n) (c : CsOk X W env Wr cs cs' ccs ccs')
    (hbase : attributeBase o name env (eval o env) = eval o env := by rfl) (hfew : methodCallForm (es.length + kws.length) (backTo cpos (starEach es env)) (backToKw cpos (keywordEach kws env)) = true := by rfl) (hline : (apos.endLine == cpos.line) = true := by rfl)
    (hi : interactive env = false := by rfl) (hsw : swapsWith (.Call (.Attribute o name apos) es kws cpos) none pos.line env = pure false := by rfl) :
    St1 prog w A G X W env σ cs (.Expr (.Call (.Attribute o name apos) es kws cpos) pos) σ cs' :=
  ⟨fun _ i => wpAny_Expr (hi := hi) (hs := hsw) (methCall ho hm hfo he i (fun _ _ _ k i' r => wff (h.run hA i' c r) fun v s3 ⟨i3, q, _, rz⟩ => by
    have := Rd.none_inv rz; subst this
    exact ⟨rfl, i3, (QQ.to k).trans q⟩) hbase hfew hline)⟩
theorem St1.call {f : Str} {p cpos pos : Pos} {es : List Expr} {kws : List Keyword} {a : Addr} {n : Nat} {Wr : List Addr} {xs : List VD} {kw : List (Str × Value)} (hf : Ev prog w A G X W env σ cs (.Name f p) (.is (.ref a))) (hfo : FnObj G a) (he : EvA prog w A G X W env σ cs es kws xs kw)
    (h : FnG prog w G (.ref a) n Wr ccs ccs' kw xs (.dat .none)) (hA : Aok A n) (c : CsOk X W env Wr cs cs' ccs ccs') (hi : interactive env = false := by rfl) (hsw : swapsWith (.Call (.Name f p) es kws cpos) none pos.line env = pure false := by rfl) :
    St1 prog w A G X W env σ cs (.Expr (.Call (.Name f p) es kws cpos) pos) σ cs' := by
  refine ⟨fun s i => ?_⟩
  obtain ⟨o, fd, ho, hd⟩ := hfo
  refine wpAny_Expr (hi := hi) (hs := hsw) (wpAny_Call_Name_kw (wff (hf.run s i) fun fv s₁ ⟨k, r⟩ => ?_))
  have r' : fv = .ref a := r
  subst r'
  refine callWith_function_kw (wff (he.run _ cpos s₁ (i.quiet k)) fun x s₂ ⟨k2, hk, r2⟩ => ⟨⟨((i.quiet k).quiet k2).gd.fr.keep _ _ ho, hd⟩, ?_⟩)
  rw [hk, List.nil_append]
  refine wff (h.run hA ((i.quiet k).quiet k2) c r2) fun v s3 ⟨i3, q, _, rz⟩ => ?_
  have := Rd.none_inv rz; subst this
  exact ⟨rfl, i3, (QQ.to (k.trans k2)).trans q⟩

/-- self._headers, read -/
noncomputable def HdAttr (prog : Program) (w : World) (G : Gn) : Prop :=
  ∀ A X s v a b (Q : Value → Shared → Prop), Gd G s.heap → HdrAt G X s.heap v a → Q (.ref a) { s with toks := s.toks + 1 } → wpAny (model prog w) A (getAttr v "_headers" b) Q FF s
end
end Mine
set_option maxRecDepth 100000
set_option maxHeartbeats 2000000
namespace Mine
open PySem PySem.W PyProof.Rows PySem.SeqAt
open AutoSeq1 (wpAny_loadPart')
open MeetsSeq MeetsSeq2 MeetsSeq3

/-! the order on data -/
noncomputable def RcLtAt (A : Around) (s : Shared) (y x : Value) (b : Bool) : Prop :=
  ∀ (prog : Program) (w : World) (E : Value → Shared → Prop) (Q : Value → Shared → Prop), Q (.bool b) s → wpAny (model prog w) A (richCompare .Lt y x) Q E s

noncomputable def cmpFrom (e c : Nat → Bool) (n n2 : Nat) : Nat → Nat → Bool
  | 0, _ => decide (n < n2)
  | k + 1, i => if e i then cmpFrom e c n n2 k (i + 1) else c i

theorem lt_loopAt (l b : Addr) (items items2 : Array Value) (n n2 : Nat) (dd dd2 : Option Addr) (sl sl2 : Array (Option Value)) (e c : Nat → Bool) (k : Nat) :
    ∀ i : Nat, min items.size items2.size - i = k → i ≤ min items.size items2.size → (∀ j, j < i → e j = true) → Meets (Builtin.«list.__eq__.loop» ⟨[.ref l, .ref b, rawInt i, rawInt 0], []⟩)
      (fun A R s => s.heap.get? l = some { cls := .type "list", dict := dd, data := .seq items n, slots := sl } ∧ s.heap.get? b = some { cls := .type "list", dict := dd2, data := .seq items2 n2, slots := sl2 } ∧
        (∀ j (h1 : j < items.size) (h2 : j < items2.size), EqAt A.in1 s items[j] items2[j] (e j)) ∧ (∀ j (h1 : j < items.size) (h2 : j < items2.size), (∀ k, k < j → e k = true) → e j = false → RcLtAt A.in1 s items[j] items2[j] (c j)) ∧
        R (.ok (.ret (.bool (cmpFrom e c items.size items2.size k i)))) s) := by
  induction k with
  | zero =>
    intro i hk hi0 hpre prog w A R s h
    obtain ⟨hp, g, d, tk, os⟩ := s; obtain ⟨hl, hb, he, hc, h⟩ := h
    wp_walk using wpAny_loadPart' hl, wpAny_loadPart' hb
    have hor : items.size ≤ i ∨ items2.size ≤ i := by lia
    rcases hor with hi | hi
    · have hi1 : items[((i : Nat) : Int).toNat]? = none := by simp; lia
      rw [hi1]
      wp_walk using wpAny_loadPart' hl, wpAny_loadPart' hb
      exact h
    · have hi1 : items2[((i : Nat) : Int).toNat]? = none := by simp; lia
      rw [hi1]
      cases hq : items[((i : Nat) : Int).toNat]? with
      | none => wp_walk using wpAny_loadPart' hl, wpAny_loadPart' hb; exact h
      | some v => wp_walk using wpAny_loadPart' hl, wpAny_loadPart' hb; exact h
  | succ k ih =>
    intro i hk hi0 hpre prog w A R s h
    obtain ⟨hp, g, d, tk, os⟩ := s; obtain ⟨hl, hb, he, hc, h⟩ := h
    wp_walk using wpAny_loadPart' hl, wpAny_loadPart' hb
    have hlt : i < items.size := by lia
    have hlt2 : i < items2.size := by lia
    have hi1 : items[((i : Nat) : Int).toNat]? = some items[i] := by simp [hlt]
    have hi2 : items2[((i : Nat) : Int).toNat]? = some items2[i] := by simp [hlt2]
    have hcast : ((i : Int) + 1) = ((i + 1 : Nat) : Int) := by push_cast; rfl
    unfold cmpFrom at h
    rw [hi1, hi2]
    refine wpAny_bind (he i hlt hlt2 prog w _ _ ?_)
    cases hb' : e i with
    | true =>
      rw [hb'] at h
      wp_walk
      rw [hcast]
      exact ⟨plainId_quiet plain_eq_loop _, codeAny_builtin entry_eq_loop (by
        rw [Around.under_plainId plain_eq_loop _]
        refine ih (i + 1) (by lia) (by lia) (fun j hj => ?_) prog w A R _ ⟨hl, hb, he, hc, by simpa using h⟩
        by_cases q : j = i
        · rw [q]; exact hb'
        · exact hpre j (by lia))⟩
    | false =>
      rw [hb'] at h
      wp_walk using wpAny_loadPart' hl, wpAny_loadPart' hb
      rw [hi1, hi2]
      refine wpAny_bind (hc i hlt hlt2 hpre hb' prog w _ _ ?_)
      wp_walk
      simpa using h

theorem list_ltAt (l b : Addr) (items items2 : Array Value) (n n2 : Nat) (dd dd2 : Option Addr) (sl sl2 : Array (Option Value)) (e c : Nat → Bool) :
    Meets (Builtin.«list.__lt__» ⟨[.ref l, .ref b], []⟩)
      (fun A R s => s.heap.get? l = some { cls := .type "list", dict := dd, data := .seq items n, slots := sl } ∧ s.heap.get? b = some { cls := .type "list", dict := dd2, data := .seq items2 n2, slots := sl2 } ∧
        (∀ j (h1 : j < items.size) (h2 : j < items2.size), EqAt A.in1 s items[j] items2[j] (e j)) ∧ (∀ j (h1 : j < items.size) (h2 : j < items2.size), (∀ k, k < j → e k = true) → e j = false → RcLtAt A.in1 s items[j] items2[j] (c j)) ∧
        R (.ok (.ret (.bool (cmpFrom e c items.size items2.size (min items.size items2.size) 0)))) s) := by
  intro prog w A R s h
  obtain ⟨hp, g, d, tk, os⟩ := s; obtain ⟨hl, hb, he, hc, h⟩ := h
  have f3 := AutoSeq1.sub_list_list
  wp_walk using wpAny_loadPart' hl, wpAny_loadPart' hb
  exact ⟨plainId_quiet plain_eq_loop _, codeAny_builtin entry_eq_loop (by
    rw [Around.under_plainId plain_eq_loop _]
    exact lt_loopAt l b items items2 n n2 dd dd2 sl sl2 e c _ 0 (by lia) (by lia) (by lia) prog w A R _ ⟨hl, hb, he, hc, h⟩)⟩

theorem tuple_ltAt (l b : Addr) (items items2 : Array Value) (n n2 : Nat) (dd dd2 : Option Addr) (sl sl2 : Array (Option Value)) (e c : Nat → Bool) :
    Meets (Builtin.«tuple.__lt__» ⟨[.ref l, .ref b], []⟩)
      (fun A R s => s.heap.get? l = some { cls := .type "tuple", dict := dd, data := .seq items n, slots := sl } ∧ s.heap.get? b = some { cls := .type "tuple", dict := dd2, data := .seq items2 n2, slots := sl2 } ∧
        (∀ j (h1 : j < items.size) (h2 : j < items2.size), EqAt A.in1 s items[j] items2[j] (e j)) ∧ (∀ j (h1 : j < items.size) (h2 : j < items2.size), (∀ k, k < j → e k = true) → e j = false → RcLtAt A.in1 s items[j] items2[j] (c j)) ∧
        R (.ok (.ret (.bool (cmpFrom e c items.size items2.size (min items.size items2.size) 0)))) s) :=
  .of_wp fun prog w A R s h => by
    obtain ⟨hp, g, d, tk, os⟩ := s; obtain ⟨hl, hb, he, hc, h⟩ := h
    have f2 := AutoSeq1.sub_tuple_tuple
    have hZ : (items.toList.zip items2.toList).length = min items.size items2.size := by simp
    wp_walk using wpAny_loadPart' hl, wpAny_loadPart' hb, wpAny_forIn_list _ (fun rest b s' => b.1 = none ∧ s' = ⟨hp, g, d, tk, os⟩ ∧ ∃ i, rest = (items.toList.zip items2.toList).drop i ∧ i ≤ min items.size items2.size ∧ (∀ j, j < i → e j = true) ∧
      R (.ok (.ret (.bool (cmpFrom e c items.size items2.size (min items.size items2.size - i) i)))) ⟨hp, g, d, tk, os⟩) _
    case turn =>
      rintro ⟨y, x⟩ rest b s' ⟨hb', rfl, i, hz, hi0, hpre, hR⟩
      have hlt : i < (items.toList.zip items2.toList).length := by
        rcases Nat.lt_or_ge i (items.toList.zip items2.toList).length with h' | h'
        · exact h'
        · rw [List.drop_of_length_le h'] at hz; cases hz
      have hm : i < min items.size items2.size := hZ ▸ hlt
      have h1 : i < items.size := Nat.lt_of_lt_of_le hm (Nat.min_le_left _ _)
      have h2 : i < items2.size := Nat.lt_of_lt_of_le hm (Nat.min_le_right _ _)
      rw [List.drop_eq_getElem_cons hlt] at hz
      injection hz with hyx hrest
      have hy : y = items[i] := by have := congrArg Prod.fst hyx; simpa using this
      have hx : x = items2[i] := by have := congrArg Prod.snd hyx; simpa using this
      subst hy hx
      obtain ⟨m, hmm⟩ : ∃ m, min items.size items2.size - i = m + 1 := ⟨min items.size items2.size - i - 1, by lia⟩
      rw [hmm] at hR
      unfold cmpFrom at hR
      have hm2 : m = min items.size items2.size - (i + 1) := by lia
      rw [hm2] at hR
      refine wpAny_bind (he i h1 h2 prog w _ _ ?_)
      cases hy : e i with
      | true =>
        rw [hy] at hR
        wp_walk
        refine ⟨rfl, rfl, i + 1, hrest, by lia, fun j hj => ?_, by simpa using hR⟩
        by_cases q : j = i
        · rw [q]; exact hy
        · exact hpre j (by lia)
      | false =>
        rw [hy] at hR
        have hrc : ∀ E (Q : Value → Shared → Prop), Q (.bool (c i)) ⟨hp, g, d, tk, os⟩ → wpAny (model prog w) A.in1 (richCompare .Lt items[i] items2[i]) Q E ⟨hp, g, d, tk, os⟩ := fun E Q => hc i h1 h2 hpre hy prog w E Q
        generalize richCompare .Lt items[i] items2[i] = rc at hrc ⊢
        wp_walk
        refine hrc _ _ ?_
        wp_walk
        exact ⟨_, rfl, by simpa using hR⟩
    case fin =>
      rintro ⟨b1, b2⟩ s' ⟨hb', rfl, i, hz, hi0, hpre, hR⟩
      simp only at hb'
      subst hb'
      have hge : min items.size items2.size ≤ i := by
        rcases Nat.lt_or_ge i (items.toList.zip items2.toList).length with h' | h'
        · rw [List.drop_eq_getElem_cons h'] at hz; cases hz
        · exact hZ ▸ h'
      have hm0 : min items.size items2.size - i = 0 := by lia
      rw [hm0] at hR
      wp_walk
      exact ⟨_, rfl, hR⟩
    case h =>
      exact ⟨rfl, rfl, 0, rfl, by lia, by lia, by simpa using h⟩

theorem RcLtAt.lists {A : Around} {s : Shared} {l b : Addr} {items items2 : Array Value} {e c : Nat → Bool} (hl : s.heap.IsList l items) (hb : s.heap.IsList b items2) (hu : A.units < cLine)
    (he : ∀ j (h1 : j < items.size) (h2 : j < items2.size), EqAt A.in1 s items[j] items2[j] (e j)) (hc : ∀ j (h1 : j < items.size) (h2 : j < items2.size), (∀ k, k < j → e k = true) → e j = false → RcLtAt A.in1 s items[j] items2[j] (c j)) :
    RcLtAt A s (.ref l) (.ref b) (cmpFrom e c items.size items2.size (min items.size items2.size) 0) := fun prog w E Q h => by
  obtain ⟨⟨cls, dd, data, sl⟩, ho, hcl, n, hd⟩ := id hl
  obtain ⟨⟨cls2, dd2, data2, sl2⟩, ho2, hc2, n2, hd2⟩ := id hb
  simp only at hcl hd hc2 hd2
  subst hcl hd hc2 hd2
  exact richCompare_meets_room (op := .Lt) ⟨_, ho, rfl⟩ ⟨_, ho2, rfl⟩ F.slot_list_lt F.entry_list_lt (F.args_list_lt_2 _ _) (list_ltAt l b items items2 n n2 dd dd2 sl sl2 e c)
    ⟨ho, ho2, he, hc, show Value.bool _ ≠ Value.notImplemented ∧ Q (.bool _) s from ⟨(fun x => nomatch x), h⟩⟩ hu
theorem RcLtAt.tuples {A : Around} {s : Shared} {l b : Addr} {items items2 : Array Value} {e c : Nat → Bool} (hl : s.heap.IsTuple l items) (hb : s.heap.IsTuple b items2) (hu : A.units < cLine)
    (he : ∀ j (h1 : j < items.size) (h2 : j < items2.size), EqAt A.in1 s items[j] items2[j] (e j)) (hc : ∀ j (h1 : j < items.size) (h2 : j < items2.size), (∀ k, k < j → e k = true) → e j = false → RcLtAt A.in1 s items[j] items2[j] (c j)) :
    RcLtAt A s (.ref l) (.ref b) (cmpFrom e c items.size items2.size (min items.size items2.size) 0) := fun prog w E Q h => by
  obtain ⟨⟨cls, dd, data, sl⟩, ho, hcl, n, hd⟩ := id hl
  obtain ⟨⟨cls2, dd2, data2, sl2⟩, ho2, hc2, n2, hd2⟩ := id hb
  simp only at hcl hd hc2 hd2
  subst hcl hd hc2 hd2
  exact richCompare_meets_room (op := .Lt) ⟨_, ho, rfl⟩ ⟨_, ho2, rfl⟩ F.slot_tuple_lt F.entry_tuple_lt (F.args_tuple_lt_2 _ _) (tuple_ltAt l b items items2 n n2 dd dd2 sl sl2 e c)
    ⟨ho, ho2, he, hc, show Value.bool _ ≠ Value.notImplemented ∧ Q (.bool _) s from ⟨(fun x => nomatch x), h⟩⟩ hu

mutual
/-- d < e, where it is told -/
noncomputable def ltd : PyData → PyData → Option Bool
  | .int a, .int b => some (decide (a < b))
  | .str a, .str b => some (decide (a.cps.toList < b.cps.toList))
  | .list xs, .list ys => ltdL xs ys
  | .tuple xs, .tuple ys => ltdL xs ys
  | _, _ => none
noncomputable def ltdL : List PyData → List PyData → Option Bool
  | [], [] => some false
  | [], _ :: _ => some true
  | _ :: _, [] => some false
  | x :: xs, y :: ys => if PyData.eqv x y then ltdL xs ys else ltd x y
end
theorem cmpFrom_shift (e c : Nat → Bool) (n n2 : Nat) : ∀ k i, cmpFrom e c (n + 1) (n2 + 1) k (i + 1) = cmpFrom (fun j => e (j + 1)) (fun j => c (j + 1)) n n2 k i
  | 0, i => by simp [cmpFrom]
  | k + 1, i => by
    unfold cmpFrom
    rw [cmpFrom_shift e c n n2 k (i + 1)]
theorem ltdL_cmp : ∀ (xs ys : List PyData) (r : Bool) (e c : Nat → Bool), ltdL xs ys = some r → (∀ j x y, xs[j]? = some x → ys[j]? = some y → e j = PyData.eqv x y) → (∀ j x y, xs[j]? = some x → ys[j]? = some y → (∀ k, k < j → e k = true) → e j = false → c j = (ltd x y).getD false) →
    cmpFrom e c xs.length ys.length (min xs.length ys.length) 0 = r
  | [], [], r, e, c, h, _, _ => by simp [ltdL] at h; subst h; simp [cmpFrom]
  | [], _ :: _, r, e, c, h, _, _ => by simp [ltdL] at h; subst h; simp [cmpFrom]
  | _ :: _, [], r, e, c, h, _, _ => by simp [ltdL] at h; subst h; simp [cmpFrom]
  | x :: xs, y :: ys, r, e, c, h, he, hc => by
    have hm : min (x :: xs).length (y :: ys).length = min xs.length ys.length + 1 := by simp only [List.length_cons]; lia
    rw [hm]
    unfold cmpFrom
    have e0 := he 0 x y rfl rfl
    unfold ltdL at h
    cases hb : PyData.eqv x y with
    | true =>
      rw [e0, hb, if_pos rfl]
      rw [hb, if_pos rfl] at h
      rw [List.length_cons, List.length_cons, cmpFrom_shift]
      refine ltdL_cmp xs ys r _ _ h (fun j x y h1 h2 => he (j + 1) x y (by simpa using h1) (by simpa using h2)) fun j x y h1 h2 hp hf => hc (j + 1) x y (by simpa using h1) (by simpa using h2) (fun k hk => ?_) hf
      cases k with
      | zero => rw [e0, hb]
      | succ k => exact hp k (by lia)
    | false =>
      rw [e0, hb, if_neg (by simp)]
      rw [hb, if_neg (by simp)] at h
      rw [hc 0 x y rfl rfl (by lia) (by rw [e0, hb]), h]
      rfl
end Mine
set_option maxRecDepth 100000
set_option maxHeartbeats 2000000
namespace Mine
open PySem PySem.W PyProof.Rows PySem.SeqAt

theorem depth_mem {d : PyData} : ∀ {xs : List PyData}, d ∈ xs → d.depth ≤ PyData.depthAll xs
  | x :: xs, h => by
    rcases List.mem_cons.mp h with rfl | h
    · simp only [PyData.depthAll]; exact Nat.le_max_left _ _
    · simp only [PyData.depthAll]; exact Nat.le_trans (depth_mem h) (Nat.le_max_right _ _)
theorem pairEq_at : ∀ (xs ys : List PyData) (j : Nat) (x y : PyData), xs[j]? = some x → ys[j]? = some y → pairEq xs ys j = PyData.eqv x y := by
  intro xs ys j x y h1 h2
  simp [pairEq, h1, h2]
theorem ltdL_first : ∀ (xs ys : List PyData) (r : Bool) (j : Nat) (x y : PyData), ltdL xs ys = some r → xs[j]? = some x → ys[j]? = some y → (∀ k, k < j → pairEq xs ys k = true) → pairEq xs ys j = false → ltd x y = some r
  | [], _, _, _, _, _, _, h1, _, _, _ => by simp at h1
  | _ :: _, [], _, _, _, _, _, _, h2, _, _ => by simp at h2
  | a :: xs, b :: ys, r, 0, x, y, h, h1, h2, _, hf => by
    have hf' := hf
    rw [pairEq_at _ _ 0 x y h1 h2] at hf'
    simp at h1 h2
    subst h1 h2
    unfold ltdL at h
    rw [if_neg (by rw [hf']; simp)] at h
    exact h
  | a :: xs, b :: ys, r, j + 1, x, y, h, h1, h2, hp, hf => by
    have h0 := hp 0 (by lia)
    rw [pairEq_at _ _ 0 a b rfl rfl] at h0
    unfold ltdL at h
    rw [if_pos h0] at h
    simp at h1 h2
    have sh : ∀ k, pairEq (a :: xs) (b :: ys) (k + 1) = pairEq xs ys k := fun k => by simp [pairEq]
    exact ltdL_first xs ys r j x y h h1 h2 (fun k hk => by rw [← sh]; exact hp (k + 1) (by lia)) (by rw [← sh]; exact hf)

theorem ltAt_rd {X Y : Addr → Prop} : ∀ (n : Nat) (da db : PyData) (A : Around) (s : Shared) (a b : Value) (r : Bool), da.depth ≤ n → Rd X s.heap a da → Rd Y s.heap b db → ltd da db = some r → A.units + min da.depth db.depth < cLine → RcLtAt A s a b r := by
  intro n
  induction n with
  | zero =>
    intro da db A s a b r hn ra rb hl hu
    cases ra with
    | int i t =>
      cases rb with
      | int j u => simp [ltd] at hl; subst hl; exact fun prog w E Q h => lt_int h
      | _ => simp [ltd] at hl
    | str x t e =>
      cases rb with
      | str y u e => have hl' : some (decide (x.cps.toList < y.cps.toList)) = some r := hl; cases hl'; exact fun prog w E Q h => P.lt_str h
      | _ => simp [ltd] at hl
    | list => simp [PyData.depth] at hn
    | tuple => simp [PyData.depth] at hn
    | _ => cases rb <;> simp [ltd] at hl
  | succ n ih =>
    intro da db A s a b r hn ra rb hl hu
    cases ra with
    | int i t =>
      cases rb with
      | int j u => simp [ltd] at hl; subst hl; exact fun prog w E Q h => lt_int h
      | _ => simp [ltd] at hl
    | str x t e =>
      cases rb with
      | str y u e => have hl' : some (decide (x.cps.toList < y.cps.toList)) = some r := hl; cases hl'; exact fun prog w E Q h => P.lt_str h
      | _ => simp [ltd] at hl
    | @list l vs m xs nx e1 r1 =>
      cases rb with
      | @list l' vs' m' ys nx' e2 r2 =>
        have hl' : ltdL xs ys = some r := hl
        obtain ⟨c1, as, q1⟩ := RdL.reads r1
        obtain ⟨c2, bs, q2⟩ := RdL.reads r2
        have z1 := Rd.size r1
        have z2 := Rd.size r2
        have hu' : A.units + min (PyData.depthAll xs + 1) (PyData.depthAll ys + 1) < cLine := hu
        have key := RcLtAt.lists (A := A) (s := s) (e := pairEq xs ys) (c := fun j => ((xs[j]?.bind fun x => ys[j]?.bind fun y => ltd x y).getD false)) ⟨_, e1, rfl, _, rfl⟩ ⟨_, e2, rfl, _, rfl⟩ (by lia)
          (fun j j1 j2 => by
            have := eqAt_readsAll xs ys A.in1 s vs.toList vs'.toList _ _ q1 q2 c1 c2 (room_in hu') j (by simpa using j1) (by simpa using j2)
            simpa using this)
          (fun j j1 j2 hp hf => by
            have hx : xs[j]? = some xs[j] := by simp [← z1, j1]
            have hy : ys[j]? = some ys[j] := by simp [← z2, j2]
            have hr := ltdL_first xs ys r j _ _ hl' hx hy hp hf
            obtain ⟨v, hv, rv⟩ := r1.get hx
            obtain ⟨v', hv', rv'⟩ := r2.get hy
            have ev : vs[j] = v := by have : vs.toList[j]? = some vs[j] := by simp [j1]
                                      rw [this] at hv; exact Option.some.inj hv
            have ev' : vs'[j] = v' := by have : vs'.toList[j]? = some vs'[j] := by simp [j2]
                                         rw [this] at hv'; exact Option.some.inj hv'
            rw [ev, ev']
            have hd1 := depth_mem (List.getElem_mem (by lia) : xs[j] ∈ xs)
            have hd2 := depth_mem (List.getElem_mem (by lia) : ys[j] ∈ ys)
            have hn' : PyData.depthAll xs + 1 ≤ n + 1 := hn
            simp only [hx, hy, Option.bind_some, hr, Option.getD_some]
            exact ih _ _ A.in1 s v v' r (by lia) rv rv' hr (by show A.units + 1 + _ < _; lia))
        rw [z1, z2, ltdL_cmp xs ys r _ _ hl' (fun j x y h1 h2 => pairEq_at xs ys j x y h1 h2) (fun j x y h1 h2 _ _ => by simp [h1, h2])] at key
        exact key
      | _ => simp [ltd] at hl
    | @tuple l vs m xs nx e1 r1 =>
      cases rb with
      | @tuple l' vs' m' ys nx' e2 r2 =>
        have hl' : ltdL xs ys = some r := hl
        obtain ⟨c1, as, q1⟩ := RdL.reads r1
        obtain ⟨c2, bs, q2⟩ := RdL.reads r2
        have z1 := Rd.size r1
        have z2 := Rd.size r2
        have hu' : A.units + min (PyData.depthAll xs + 1) (PyData.depthAll ys + 1) < cLine := hu
        have key := RcLtAt.tuples (A := A) (s := s) (e := pairEq xs ys) (c := fun j => ((xs[j]?.bind fun x => ys[j]?.bind fun y => ltd x y).getD false)) ⟨_, e1, rfl, _, rfl⟩ ⟨_, e2, rfl, _, rfl⟩ (by lia)
          (fun j j1 j2 => by
            have := eqAt_readsAll xs ys A.in1 s vs.toList vs'.toList _ _ q1 q2 c1 c2 (room_in hu') j (by simpa using j1) (by simpa using j2)
            simpa using this)
          (fun j j1 j2 hp hf => by
            have hx : xs[j]? = some xs[j] := by simp [← z1, j1]
            have hy : ys[j]? = some ys[j] := by simp [← z2, j2]
            have hr := ltdL_first xs ys r j _ _ hl' hx hy hp hf
            obtain ⟨v, hv, rv⟩ := r1.get hx
            obtain ⟨v', hv', rv'⟩ := r2.get hy
            have ev : vs[j] = v := by have : vs.toList[j]? = some vs[j] := by simp [j1]
                                      rw [this] at hv; exact Option.some.inj hv
            have ev' : vs'[j] = v' := by have : vs'.toList[j]? = some vs'[j] := by simp [j2]
                                         rw [this] at hv'; exact Option.some.inj hv'
            rw [ev, ev']
            have hd1 := depth_mem (List.getElem_mem (by lia) : xs[j] ∈ xs)
            have hd2 := depth_mem (List.getElem_mem (by lia) : ys[j] ∈ ys)
            have hn' : PyData.depthAll xs + 1 ≤ n + 1 := hn
            simp only [hx, hy, Option.bind_some, hr, Option.getD_some]
            exact ih _ _ A.in1 s v v' r (by lia) rv rv' hr (by show A.units + 1 + _ < _; lia))
        rw [z1, z2, ltdL_cmp xs ys r _ _ hl' (fun j x y h1 h2 => pairEq_at xs ys j x y h1 h2) (fun j x y h1 h2 _ _ => by simp [h1, h2])] at key
        exact key
      | _ => simp [ltd] at hl
    | _ => cases rb <;> simp [ltd] at hl

theorem ltD {prog : Program} {w : World} {A : Around} {G : Gn} {X : Addr → Prop} {d e : PyData} {r : Bool} (h : ltd d e = some r) (hu : A.units + min d.depth e.depth < cLine) : B2 prog w A G X (compareOp .Lt) (.dat d) (.dat e) (Bo r) := by
  intro s v u _ hv hu'
  exact ltAt_rd d.depth d e A s v u r (Nat.le_refl _) hv hu' h hu prog w _ _ ⟨QS.refl _, .bool _⟩
end Mine
set_option maxRecDepth 100000
set_option maxHeartbeats 2000000
namespace Mine
open PySem PySem.W PyProof.Rows

/-! the sort, as questions asked of a strict order -/
structure Ord (n : Nat) (lt : Nat → Nat → Bool) : Prop where
  trans : ∀ a b c, a < n → b < n → c < n → lt a b = true → lt b c = true → lt a c = true
  total : ∀ a b, a < n → b < n → a ≠ b → lt a b = false → lt b a = true
noncomputable abbrev gd0 (p : Array Nat) (i : Nat) : Nat := p.getD i 0
structure Pm (n : Nat) (p : Array Nat) : Prop where
  size : p.size = n
  perm : p.toList.Perm (List.range n)
theorem gd0_eq {p : Array Nat} {i : Nat} (h : i < p.size) : p[i]? = some (gd0 p i) := by simp [gd0, Array.getD, h]
theorem gd0_of {p : Array Nat} {i v : Nat} (h : p[i]? = some v) : gd0 p i = v := by simp [gd0, h]
theorem Pm.lt {n : Nat} {p : Array Nat} (h : Pm n p) {i : Nat} (hi : i < n) : gd0 p i < n := by
  have e := gd0_eq (p := p) (by rw [h.size]; exact hi)
  have : gd0 p i ∈ p.toList := by rw [Array.mem_toList_iff]; exact Array.mem_of_getElem? e
  simpa using h.perm.subset this
theorem Pm.ne {n : Nat} {p : Array Nat} (h : Pm n p) {i j : Nat} (hi : i < n) (hj : j < n) (hij : i ≠ j) : gd0 p i ≠ gd0 p j := by
  have hn : p.toList.Nodup := h.perm.nodup_iff.mpr List.nodup_range
  intro e
  have e1 := gd0_eq (p := p) (by rw [h.size]; exact hi)
  have e2 := gd0_eq (p := p) (by rw [h.size]; exact hj)
  rw [← Array.getElem?_toList] at e1 e2
  have hl : p.toList.length = n := by simp [h.size]
  exact hij ((List.getElem?_inj (by lia) hn).mp (by rw [e1, e2, e]))
theorem Pm.of {n : Nat} {p q : Array Nat} (h : Pm n p) (hp : q.Perm p) : Pm n q := ⟨by rw [hp.size_eq]; exact h.size, hp.toList.trans h.perm⟩

section
variable {n : Nat} {lt : Nat → Nat → Bool} {Inv : Shared → Prop} {cmp : Nat → Nat → (Bool → Shared → Prop) → Shared → Prop}
/-- the questions are answered by lt -/
noncomputable def Asks (n : Nat) (lt : Nat → Nat → Bool) (Inv : Shared → Prop) (cmp : Nat → Nat → (Bool → Shared → Prop) → Shared → Prop) : Prop :=
  ∀ i j (C : Bool → Shared → Prop) s, i < n → j < n → i ≠ j → Inv s → (∀ s', Inv s' → C (lt i j) s') → cmp i j C s
noncomputable def SortTo (lt : Nat → Nat → Bool) (p : Array Nat) (k : Nat) : Prop := ∀ a b, a < b → b < k → lt (gd0 p a) (gd0 p b) = true
noncomputable def DescTo (lt : Nat → Nat → Bool) (p : Array Nat) (k : Nat) : Prop := ∀ a b, a < b → b < k → lt (gd0 p b) (gd0 p a) = true

theorem asc_spec (O : Ord n lt) (H : Asks n lt Inv cmp) {p : Array Nat} (hp : Pm n p) {Q : Nat → Shared → Prop} : ∀ (f m : Nat) (s : Shared), Inv s → 1 ≤ m → m + f ≤ n → SortTo lt p m →
    (∀ k s', Inv s' → m ≤ k → k ≤ m + f → SortTo lt p k → (k < m + f → lt (gd0 p k) (gd0 p (k - 1)) = true) → Q k s') → (kas_asc p f m).kasWp cmp Q s
  | 0, m, s, hs, h1, h2, h3, hq => hq m s hs (Nat.le_refl _) (Nat.le_refl _) h3 (fun h => by lia)
  | f + 1, m, s, hs, h1, h2, h3, hq => by
    show cmp (gd0 p m) (gd0 p (m - 1)) _ s
    refine H _ _ _ s (hp.lt (by lia)) (hp.lt (by lia)) (hp.ne (by lia) (by lia) (by lia)) hs fun s' hs' => ?_
    dsimp only
    cases hc : lt (gd0 p m) (gd0 p (m - 1)) with
    | true =>
      rw [if_pos rfl]
      exact hq m s' hs' (Nat.le_refl _) (by lia) h3 fun _ => hc
    | false =>
      rw [if_neg (by simp)]
      have hr := O.total _ _ (hp.lt (by lia)) (hp.lt (by lia)) (hp.ne (by lia) (by lia) (by lia : m ≠ m - 1)) hc
      refine asc_spec O H hp f (m + 1) s' hs' (by lia) (by lia) (fun a b hab hb => ?_) fun k s'' hs'' a b c d => hq k s'' hs'' (by lia) (by lia) c fun h => d (by lia)
      by_cases e : b = m
      · subst e
        by_cases e2 : a = b - 1
        · rw [e2]; exact hr
        · exact O.trans _ _ _ (hp.lt (by lia)) (hp.lt (by lia)) (hp.lt (by lia)) (h3 a (b - 1) (by lia) (by lia)) hr
      · exact h3 a b hab (by lia)

theorem desc_spec (O : Ord n lt) (H : Asks n lt Inv cmp) {p : Array Nat} (hp : Pm n p) {Q : Array Nat × Nat × Nat → Shared → Prop} : ∀ (f m : Nat) (s : Shared), Inv s → 1 ≤ m → m + f ≤ n → DescTo lt p m →
    (∀ k s', Inv s' → m ≤ k → k ≤ m + f → DescTo lt p k → Q (p, k, 0) s') → (kas_desc f p m 0).kasWp cmp Q s
  | 0, m, s, hs, h1, h2, h3, hq => hq m s hs (Nat.le_refl _) (Nat.le_refl _) h3
  | f + 1, m, s, hs, h1, h2, h3, hq => by
    show cmp (gd0 p m) (gd0 p (m - 1)) _ s
    refine H _ _ _ s (hp.lt (by lia)) (hp.lt (by lia)) (hp.ne (by lia) (by lia) (by lia)) hs fun s' hs' => ?_
    dsimp only
    cases hc : lt (gd0 p m) (gd0 p (m - 1)) with
    | true =>
      rw [if_pos rfl, if_neg (by lia)]
      refine desc_spec O H hp f (m + 1) s' hs' (by lia) (by lia) (fun a b hab hb => ?_) fun k s'' hs'' a b c => hq k s'' hs'' (by lia) (by lia) c
      by_cases e : b = m
      · subst e
        by_cases e2 : a = b - 1
        · rw [e2]; exact hc
        · exact O.trans _ _ _ (hp.lt (by lia)) (hp.lt (by lia)) (hp.lt (by lia)) hc (h3 a (b - 1) (by lia) (by lia))
      · exact h3 a b hab (by lia)
    | false =>
      rw [if_neg (by simp)]
      have hr := O.total _ _ (hp.lt (by lia)) (hp.lt (by lia)) (hp.ne (by lia) (by lia) (by lia : m ≠ m - 1)) hc
      show cmp (gd0 p (m - 1)) (gd0 p m) _ s'
      refine H _ _ _ s' (hp.lt (by lia)) (hp.lt (by lia)) (hp.ne (by lia) (by lia) (by lia)) hs' fun s'' hs'' => ?_
      dsimp only
      rw [hr, if_pos rfl]
      exact hq m s'' hs'' (Nat.le_refl _) (by lia) h3

theorem tail_spec (O : Ord n lt) (H : Asks n lt Inv cmp) {p : Array Nat} (hp : Pm n p) {m : Nat} {Q : Nat × Array Nat → Shared → Prop} {s : Shared} (hs : Inv s) (h1 : 1 ≤ m) (h2 : m ≤ n) (h3 : DescTo lt p m)
    (hq : ∀ k q s', Inv s' → m ≤ k → k ≤ n → Pm n q → SortTo lt q k → Q (k, q) s') : (kas_tail3 m n p).kasWp cmp Q s := by
  unfold kas_tail3
  rw [KasT.kasWp_bind]
  have hr : Pm n (kas_rev p 0 m) := hp.of (mirror_perm _ _ _ _)
  have gr : ∀ a, a < m → gd0 (kas_rev p 0 m) a = gd0 p (m - 1 - a) := fun a ha => by
    have hm : m ≤ p.size := by rw [hp.size]; exact h2
    have := getElem?_mirror_all (i := 0) hm a
    rw [if_pos ⟨Nat.zero_le _, ha⟩] at this
    refine gd0_of (this.trans ?_)
    rw [show 0 + m - 1 - a = m - 1 - a by lia]
    exact gd0_eq (by lia)
  refine asc_spec O H hr (n - m) m s hs h1 (by lia) (fun a b hab hb => ?_) fun k s' hs' a b c _ => hq k _ s' hs' a (by lia) hr c
  rw [gr a (by lia), gr b hb]
  exact h3 _ _ (by lia) (by lia)

theorem descPart_spec (O : Ord n lt) (H : Asks n lt Inv cmp) {p : Array Nat} (hp : Pm n p) {m : Nat} {Q : Nat × Array Nat → Shared → Prop} {s : Shared} (hs : Inv s) (h1 : 1 ≤ m) (h2 : m + 1 ≤ n) (h3 : DescTo lt p (m + 1))
    (hq : ∀ k q s', Inv s' → 1 ≤ k → k ≤ n → Pm n q → SortTo lt q k → Q (k, q) s') : (kas_descPart m n p).kasWp cmp Q s := by
  unfold kas_descPart
  rw [KasT.kasWp_bind]
  refine desc_spec O H hp (n - (m + 1)) (m + 1) s hs (by lia) (by lia) h3 fun k s' hs' a b c => ?_
  dsimp only
  rw [if_neg (by lia)]
  exact tail_spec O H hp hs' (by lia) (by lia) c fun k' q s'' hs'' a' b' c' d' => hq k' q s'' hs'' (by lia) b' c' d'

theorem count_spec (O : Ord n lt) (H : Asks n lt Inv cmp) {p : Array Nat} (hp : Pm n p) {Q : Nat × Array Nat → Shared → Prop} {s : Shared} (hs : Inv s) (h1 : 1 ≤ n)
    (hq : ∀ k q s', Inv s' → 1 ≤ k → k ≤ n → Pm n q → SortTo lt q k → Q (k, q) s') : (kas_count n p).kasWp cmp Q s := by
  unfold kas_count
  rw [KasT.kasWp_bind]
  refine asc_spec O H hp (n - 1) 1 s hs (Nat.le_refl _) (by lia) (fun a b _ _ => by lia) fun k s' hs' a b c d => ?_
  by_cases e : k = n
  · subst e
    rw [if_pos (by simp)]
    exact hq k p s' hs' a (by lia) hp c
  · rw [if_neg (by simpa using e)]
    have hd := d (by lia)
    by_cases e1 : k > 1
    · rw [if_pos e1]
      show cmp (gd0 p 0) (gd0 p (k - 1)) _ s'
      refine H _ _ _ s' (hp.lt (by lia)) (hp.lt (by lia)) (hp.ne (by lia) (by lia) (by lia)) hs' fun s'' hs'' => ?_
      dsimp only
      rw [c 0 (k - 1) (by lia) (by lia), if_pos rfl]
      exact hq k p s'' hs'' a (by lia) hp c
    · rw [if_neg e1]
      obtain rfl : k = 1 := by lia
      have hr : Pm n (kas_rev p 0 1) := hp.of (mirror_perm _ _ _ _)
      have gr : ∀ a, gd0 (kas_rev p 0 1) a = gd0 p a := fun a => by
        show gd0 (mirror p 0 1 0) a = _
        rfl
      refine descPart_spec O H hr hs' (Nat.le_refl _) (by lia) (fun a b hab hb => ?_) hq
      obtain rfl : a = 0 := by lia
      obtain rfl : b = 1 := by lia
      rw [gr, gr]; exact hd

theorem place_spec (O : Ord n lt) (H : Asks n lt Inv cmp) {p : Array Nat} (hp : Pm n p) {k : Nat} (hk : k < n) (hs0 : SortTo lt p k) {Q : Nat → Shared → Prop} : ∀ (f l r : Nat) (s : Shared), Inv s → l ≤ r → r ≤ k → r - l ≤ f →
    (∀ a, a < l → lt (gd0 p a) (gd0 p k) = true) → (∀ a, r ≤ a → a < k → lt (gd0 p k) (gd0 p a) = true) →
    (∀ l s', Inv s' → l ≤ k → (∀ a, a < l → lt (gd0 p a) (gd0 p k) = true) → (∀ a, l ≤ a → a < k → lt (gd0 p k) (gd0 p a) = true) → Q l s') → (kas_place p k f l r).kasWp cmp Q s
  | 0, l, r, s, hs, h1, h2, h3, h4, h5, hq => by
    obtain rfl : l = r := by lia
    exact hq l s hs h2 h4 h5
  | f + 1, l, r, s, hs, h1, h2, h3, h4, h5, hq => by
    unfold kas_place
    by_cases e : l ≥ r
    · rw [if_pos e]
      obtain rfl : l = r := by lia
      exact hq l s hs h2 h4 h5
    · rw [if_neg e]
      show cmp (gd0 p k) (gd0 p ((l + r) / 2)) _ s
      have hm : (l + r) / 2 < r := by lia
      have hm2 : l ≤ (l + r) / 2 := by lia
      refine H _ _ _ s (hp.lt hk) (hp.lt (by lia)) (hp.ne hk (by lia) (by lia)) hs fun s' hs' => ?_
      dsimp only
      cases hc : lt (gd0 p k) (gd0 p ((l + r) / 2)) with
      | true =>
        rw [if_pos rfl]
        refine place_spec O H hp hk hs0 f l ((l + r) / 2) s' hs' hm2 (by lia) (by lia) h4 (fun a h6 h7 => ?_) hq
        by_cases e1 : a = (l + r) / 2
        · rw [e1]; exact hc
        · exact O.trans _ _ _ (hp.lt hk) (hp.lt (by lia)) (hp.lt (by lia)) hc (hs0 _ _ (by lia) h7)
      | false =>
        rw [if_neg (by simp)]
        have hr := O.total _ _ (hp.lt hk) (hp.lt (by lia)) (hp.ne hk (by lia) (by lia)) hc
        refine place_spec O H hp hk hs0 f ((l + r) / 2 + 1) r s' hs' (by lia) h2 (by lia) (fun a h6 => ?_) h5 hq
        by_cases e1 : a = (l + r) / 2
        · rw [e1]; exact hr
        · exact O.trans _ _ _ (hp.lt (by lia)) (hp.lt (by lia)) (hp.lt hk) (hs0 _ _ (by lia) (by lia)) hr

theorem bin_spec (O : Ord n lt) (H : Asks n lt Inv cmp) {Q : Array Nat → Shared → Prop} (hq : ∀ q s', Inv s' → Pm n q → SortTo lt q n → Q q s') : ∀ (f : Nat) (p : Array Nat) (k : Nat) (s : Shared), Inv s → Pm n p → 1 ≤ k → k + f = n → SortTo lt p k → (kas_bin f p k).kasWp cmp Q s
  | 0, p, k, s, hs, hp, h1, h2, h3 => by
    obtain rfl : k = n := by lia
    exact hq p s hs hp h3
  | f + 1, p, k, s, hs, hp, h1, h2, h3 => by
    unfold kas_bin
    rw [KasT.kasWp_bind]
    refine place_spec O H hp (by lia) h3 k 0 k s hs (Nat.zero_le _) (Nat.le_refl _) (by lia) (fun a h => by lia) (fun a h h' => by lia) fun l s' hs' hl hlo hhi => ?_
    have hr : Pm n (bubble p k (k - l)) := hp.of (bubble_perm _ _ _)
    have gr : ∀ a, a < k + 1 → gd0 (bubble p k (k - l)) a = if a = l then gd0 p k else if l < a then gd0 p (a - 1) else gd0 p a := fun a ha => by
      have := getElem?_bubble (xs := p) (src := k) (by rw [hp.size]; lia) (k - l) (by lia) a
      rw [show k - (k - l) = l by lia] at this
      refine gd0_of (this.trans ?_)
      split
      · exact gd0_eq (by rw [hp.size]; lia)
      · split
        · rw [if_pos (by lia)]; exact gd0_eq (by rw [hp.size]; lia)
        · rw [if_neg (by lia)]; exact gd0_eq (by rw [hp.size]; lia)
    refine bin_spec O H hq f _ (k + 1) s' hs' hr (by lia) (by lia) fun a b hab hb => ?_
    rw [gr a (by lia), gr b hb]
    by_cases e1 : a = l
    · rw [if_pos e1, if_neg (by lia), if_pos (by lia)]
      exact hhi _ (by lia) (by lia)
    · rw [if_neg e1]
      by_cases e2 : b = l
      · rw [if_pos e2, if_neg (by lia)]
        exact hlo _ (by lia)
      · rw [if_neg e2]
        repeat' split
        all_goals exact h3 _ _ (by lia) (by lia)

theorem sort_spec (O : Ord n lt) (H : Asks n lt Inv cmp) {Q : Array Nat → Shared → Prop} {s : Shared} (hs : Inv s) (h1 : 1 ≤ n) (hq : ∀ q s', Inv s' → Pm n q → SortTo lt q n → Q q s') : (kas_sort n).kasWp cmp Q s := by
  unfold kas_sort
  rw [KasT.kasWp_bind]
  have h0 : Pm n (List.toArray (List.range n)) := ⟨by simp, by simp⟩
  refine count_spec O H h0 hs h1 fun k q s' hs' a b c d => ?_
  dsimp only
  by_cases e : k < n
  · rw [if_pos e, Nat.max_eq_left a]
    exact bin_spec O H hq (n - k) q k s' hs' c a (by lia) d
  · rw [if_neg e]
    obtain rfl : k = n := by lia
    exact hq q s' hs' c d
end
end Mine
set_option maxRecDepth 100000
set_option maxHeartbeats 2000000
namespace Mine
open PySem PySem.W PyProof.Rows PySem.SeqAt

section
variable {X Y : Addr → Prop} {s : Shared}
/-- `__lt__` of two data of one type -/
noncomputable def OneLtAt (A : Around) (s : Shared) (y x : Value) (b : Bool) : Prop :=
  ∀ (prog : Program) (w : World) (E : Value → Shared → Prop) (Q : Bool → Shared → Prop), Q b s → wpAny (model prog w) A (oneLt' true y x) Q E s

theorem oneLt_rd {A : Around} {d e : PyData} {p q : Value} {r : Bool} (hp : Rd X s.heap p d) (hq : Rd Y s.heap q e) (hl : ltd d e = some r) (ht : ∀ ds, d ≠ .tuple ds) (hu : A.units + min d.depth e.depth < cLine) : OneLtAt A s p q r := by
  intro prog w E Q h
  cases hp with
  | int i t =>
    cases hq with
    | int j u => simp [ltd] at hl; subst hl; exact oneLt_int h
    | _ => simp [ltd] at hl
  | str x t e =>
    cases hq with
    | str y u e => have hl' : some (decide (x.cps.toList < y.cps.toList)) = some r := hl; cases hl'; exact oneLt_str h
    | _ => simp [ltd] at hl
  | @list l vs m xs nx e1 r1 =>
    cases hq with
    | @list l' vs' m' ys nx' e2 r2 =>
      have hu' : A.units + min (PyData.depthAll xs + 1) (PyData.depthAll ys + 1) < cLine := hu
      have hl' : ltdL xs ys = some r := hl
      obtain ⟨c1, as, q1⟩ := RdL.reads r1
      obtain ⟨c2, bs, q2⟩ := RdL.reads r2
      have z1 := Rd.size r1
      have z2 := Rd.size r2
      rw [oneLt'_eq]
      simp only [if_true]
      refine wpAny_bind (wpAny_cRoomFor (by lia) ?_)
      refine wpAny_bind (wpAny_callSpecialIfBound?_slot ⟨_, e1, rfl⟩ F.slot_list_lt ?_)
      refine call_meets F.slot_list_lt ⟨_, e1, rfl⟩ F.entry_list_lt (F.args_list_lt_2 _ _) (list_ltAt l l' vs vs' m m' none none #[] #[] (pairEq xs ys) (fun j => ((xs[j]?.bind fun x => ys[j]?.bind fun y => ltd x y).getD false))) ⟨e1, e2, ?_, ?_, ?_⟩
      · intro j j1 j2
        have := eqAt_readsAll xs ys A.in1 s vs.toList vs'.toList _ _ q1 q2 c1 c2 (room_in hu') j (by simpa using j1) (by simpa using j2)
        simpa using this
      · intro j j1 j2 hp hf
        have hx : xs[j]? = some xs[j] := by simp [← z1, j1]
        have hy : ys[j]? = some ys[j] := by simp [← z2, j2]
        have hr := ltdL_first xs ys r j _ _ hl' hx hy hp hf
        obtain ⟨v, hv, rv⟩ := r1.get hx
        obtain ⟨v', hv', rv'⟩ := r2.get hy
        have ev : vs[j] = v := by have : vs.toList[j]? = some vs[j] := by simp [j1]
                                  rw [this] at hv; exact Option.some.inj hv
        have ev' : vs'[j] = v' := by have : vs'.toList[j]? = some vs'[j] := by simp [j2]
                                     rw [this] at hv'; exact Option.some.inj hv'
        rw [ev, ev']
        have hd1 := depth_mem (List.getElem_mem (by lia) : xs[j] ∈ xs)
        have hd2 := depth_mem (List.getElem_mem (by lia) : ys[j] ∈ ys)
        simp only [hx, hy, Option.bind_some, hr, Option.getD_some]
        exact ltAt_rd _ _ _ A.in1 s v v' r (Nat.le_refl _) rv rv' hr (by show A.units + 1 + _ < _; lia)
      · rw [z1, z2, ltdL_cmp xs ys r _ _ hl' (fun j x y h1 h2 => pairEq_at xs ys j x y h1 h2) (fun j x y h1 h2 _ _ => by simp [h1, h2])]
        exact wpAny_truthy_bool h
    | _ => simp [ltd] at hl
  | tuple => exact absurd rfl (ht _)
  | _ => cases hq <;> simp [ltd] at hl

theorem katLex_rd {prog : Program} {w : World} {A : Around} {Q : Bool → Shared → Prop} {r fin : Bool} (hQ : Q r s) : ∀ (xs ys : List PyData) (vs us : List Value) (i : Nat), RdL X s.heap vs xs → RdL Y s.heap us ys → ltdL xs ys = some r → (i = 0 → ∀ d ds, xs[0]? = some d → d ≠ .tuple ds) →
    A.units + min (PyData.depthAll xs) (PyData.depthAll ys) < cLine → fin = decide (xs.length < ys.length) → KatLex prog w A true fin Q (vs.zip us) i s
  | [], ys, vs, us, i, r1, r2, hl, _, _, hf => by
    cases r1
    show Q fin s
    have e : fin = r := by
      rw [hf]
      cases ys with
      | nil => simpa [ltdL] using hl
      | cons y ys => simpa [ltdL] using hl
    rw [e]; exact hQ
  | x :: xs, [], vs, us, i, r1, r2, hl, _, _, hf => by
    cases r2
    rw [List.zip_nil_right]
    show Q fin s
    have e : fin = r := by rw [hf]; simpa [ltdL] using hl
    rw [e]; exact hQ
  | x :: xs, y :: ys, _, _, i, .cons (v := v) (vs := vs) rx r1, .cons (v := u) (vs := us) ry r2, hl, h0, hu, hf => by
    rw [List.zip_cons_cons]
    have hu' : A.units + min (max x.depth (PyData.depthAll xs)) (max y.depth (PyData.depthAll ys)) < cLine := hu
    obtain ⟨c1, as, q1⟩ := Rd.reads rx
    obtain ⟨c2, bs, q2⟩ := Rd.reads ry
    unfold ltdL at hl
    refine kat_cons (eqAt_reads _ _ A s v u _ _ q1 q2 c1 c2 (by lia) prog w _ _ ?_)
    cases hb : PyData.eqv x y with
    | true =>
      rw [hb, if_pos rfl] at hl
      exact kat_yes (katLex_rd hQ xs ys vs us (i + 1) r1 r2 hl (by lia) (by lia) (by rw [hf]; simp))
    | false =>
      rw [hb, if_neg (by simp)] at hl
      refine kat_no ?_
      cases i with
      | zero => exact oneLt_rd rx ry hl (fun ds => h0 rfl x ds rfl) (by lia) prog w _ _ hQ
      | succ i =>
        have e : (true && (i + 1 == 0)) = false := by simp
        rw [e]
        exact kat_one _ _ (ltAt_rd _ _ _ A s v u r (Nat.le_refl _) rx ry hl (by lia) prog w _ _ hQ)

/-- how keys are compared -/
inductive KeySh : List PyData → SortKind → Prop
  | tup (T : String) (ds : List PyData) : T = "int" ∨ T = "list" → (∀ d, d ∈ ds → ∃ x xs, d = .tuple (x :: xs) ∧ (T = "int" → ∃ i, x = .int i) ∧ (T = "list" → ∃ l, x = .list l)) → KeySh ds (tuples' true)
  | lst (ds : List PyData) : (∀ d, d ∈ ds → ∃ l, d = .list l) → KeySh ds oneType'
theorem tups_rd {M : Model} {T : String} (hT : T = "int" ∨ T = "list") : ∀ (ks : List Value) (ds : List PyData), RdL X s.heap ks ds → (∀ d, d ∈ ds → ∃ x xs, d = .tuple (x :: xs) ∧ (T = "int" → ∃ i, x = .int i) ∧ (T = "list" → ∃ l, x = .list l)) →
    ∃ fs, KatTups s.heap ks fs ∧ fs.length = ks.length ∧ ∀ v, v ∈ fs → Looks M s.heap (typeOf v) (.type T)
  | _, _, .nil, _ => ⟨[], .nil, rfl, nofun⟩
  | _, _, .cons r p, h => by
    obtain ⟨fs, t, hl, hL⟩ := tups_rd hT _ _ p fun d hd => h d (.tail _ hd)
    obtain ⟨x, xs, rfl, h1, h2⟩ := h _ (.head _)
    obtain ⟨a, vs, n, rfl, _, e, rl⟩ := Rd.tuple_inv r
    obtain ⟨f, hf, rf⟩ := rl.get (i := 0) rfl
    refine ⟨f :: fs, .cons e rfl rfl (by simpa using hf) t, by simp [hl], fun v hv => ?_⟩
    rcases List.mem_cons.mp hv with rfl | hv
    · rcases hT with rfl | rfl
      · obtain ⟨i, rfl⟩ := h1 rfl
        obtain ⟨t, rfl⟩ := Rd.int_inv rf
        exact Looks.of_pure rfl
      · obtain ⟨l, rfl⟩ := h2 rfl
        obtain ⟨b, us, m, rfl, _, e', _⟩ := Rd.list_inv rf
        exact (Looks.ld e').andThen .now
    · exact hL v hv
theorem keyKind_sh {M : Model} {A : Around} {E : Value → Shared → Prop} {Q : SortKind → Shared → Prop} {ks : List Value} {ds : List PyData} {κ : SortKind} (r : RdL X s.heap ks ds) (h : KeySh ds κ) (h2 : 2 ≤ ks.length) (hQ : Q κ s) : wpAny M A (keyKind' ks.toArray) Q E s := by
  cases h with
  | tup T ds hT hd =>
    obtain ⟨fs, t, hl, hL⟩ := tups_rd (M := M) hT ks ds r hd
    rcases hT with rfl | rfl
    · exact kat_kind (T := .type "int") t (by lia) hL (by decide) hQ
    · exact kat_kind (T := .type "list") t (by lia) hL (by decide) hQ
  | lst ds hd =>
    refine kas_kind (T := .type "list") h2 (fun v hv => ?_) (by decide) (by decide) hQ
    obtain ⟨d, hm, rd⟩ := r.mem hv
    obtain ⟨l, rfl⟩ := hd d hm
    obtain ⟨b, us, m, rfl, _, e', _⟩ := Rd.list_inv rd
    exact (Looks.ld e').andThen .now
theorem keyLt_sh {prog : Program} {w : World} {A : Around} {E : Value → Shared → Prop} {Q : Bool → Shared → Prop} {ds : List PyData} {x y : Value} {d e : PyData} {κ : SortKind} {b : Bool} (h : KeySh ds κ) (hd : d ∈ ds) (he : e ∈ ds) (rx : Rd X s.heap x d) (ry : Rd X s.heap y e) (hl : ltd d e = some b)
    (hu : A.units + min d.depth e.depth < cLine) (hQ : Q b s) : wpAny (model prog w) A (keyLt' κ x y) Q E s := by
  cases h with
  | tup T ds hT h =>
    obtain ⟨p, ps, rfl, h1, h2⟩ := h d hd
    obtain ⟨q, qs, rfl, h1', h2'⟩ := h e he
    obtain ⟨a, vs, n, rfl, _, e1, r1⟩ := Rd.tuple_inv rx
    obtain ⟨c, us, m, rfl, _, e2, r2⟩ := Rd.tuple_inv ry
    have hu' : A.units + min (PyData.depthAll (p :: ps) + 1) (PyData.depthAll (q :: qs) + 1) < cLine := hu
    refine kat_lt e1 rfl e2 rfl (katLex_rd hQ (p :: ps) (q :: qs) vs.toList us.toList 0 r1 r2 hl (fun _ d ds hd hc => ?_) (by lia) (by rw [Rd.size r1, Rd.size r2]))
    simp at hd
    subst hd
    rcases hT with rfl | rfl
    · obtain ⟨i, hi⟩ := h1 rfl
      rw [hi] at hc; cases hc
    · obtain ⟨i, hi⟩ := h2 rfl
      rw [hi] at hc; cases hc
  | lst ds h =>
    rw [keyLt'_oneType]
    refine oneLt_rd rx ry hl (fun ds hc => ?_) hu prog w _ _ hQ
    obtain ⟨l, rfl⟩ := h d hd
    cases hc
end
end Mine
set_option maxRecDepth 100000
set_option maxHeartbeats 2000000
namespace Mine
open PySem PySem.W PyProof.Rows

/-! sorted -/
section
variable {α : Type} {rk : α → Nat} {xs ys : List α}
noncomputable def sortBy (rk : α → Nat) (xs : List α) : List α := xs.mergeSort fun a b => decide (rk a ≤ rk b)
theorem sortBy_perm : (sortBy rk xs).Perm xs := List.mergeSort_perm ..
theorem sortBy_sorted : (sortBy rk xs).Pairwise fun a b => rk a ≤ rk b := by
  have := List.pairwise_mergeSort (le := fun a b : α => decide (rk a ≤ rk b)) (fun a b c h1 h2 => by simp at *; lia) (fun a b => by simp; lia) xs
  exact this.imp fun h => by simpa using h
theorem nodup_inj : ∀ {xs : List α}, (xs.map rk).Nodup → ∀ {a b : α}, a ∈ xs → b ∈ xs → rk a = rk b → a = b
  | x :: xs, h, a, b, ha, hb, e => by
    rw [List.map_cons, List.nodup_cons] at h
    rcases List.mem_cons.mp ha with ha1 | ha1 <;> rcases List.mem_cons.mp hb with hb1 | hb1
    · rw [ha1, hb1]
    · exact absurd (show rk x ∈ xs.map rk by rw [← ha1, e]; exact List.mem_map_of_mem hb1) h.1
    · exact absurd (show rk x ∈ xs.map rk by rw [← hb1, ← e]; exact List.mem_map_of_mem ha1) h.1
    · exact nodup_inj h.2 ha1 hb1 e
theorem sortBy_unique (hp : ys.Perm xs) (hs : ys.Pairwise fun a b => rk a ≤ rk b) (hn : (xs.map rk).Nodup) : ys = sortBy rk xs :=
  List.Perm.eq_of_pairwise (fun a b ha hb h1 h2 => nodup_inj hn (hp.subset ha) (sortBy_perm.subset hb) (by lia)) hs sortBy_sorted (hp.trans sortBy_perm.symm)

noncomputable def ltOf (rk : α → Nat) (xs : List α) (i j : Nat) : Bool := decide ((xs[i]?).elim 0 rk < (xs[j]?).elim 0 rk)
theorem ltOf_ord (hn : (xs.map rk).Nodup) : Ord xs.length (ltOf rk xs) := by
  refine ⟨fun a b c _ _ _ h1 h2 => ?_, fun a b ha hb hab h => ?_⟩
  · simp only [ltOf, decide_eq_true_eq] at *; lia
  · simp only [ltOf, decide_eq_true_eq, decide_eq_false_iff_not] at *
    have ea : xs[a]? = some xs[a] := by simp [ha]
    have eb : xs[b]? = some xs[b] := by simp [hb]
    rw [ea, eb] at h ⊢
    have ne : rk xs[a] ≠ rk xs[b] := fun e => by
      have := (List.getElem?_inj (l := xs.map rk) (i := a) (j := b) (by simpa using ha) hn).mp (by simp [ea, eb, e])
      exact hab this
    show rk xs[b] < rk xs[a]
    have h' : ¬ rk xs[a] < rk xs[b] := h
    lia
noncomputable def outOf (vs : List Value) (p : Array Nat) : List Value := p.toList.map fun i => vs.getD i Value.none
theorem range_filterMap (f : Nat → Option α) : ∀ (xs : List α) (k : Nat), (∀ i, f (k + i) = xs[i]?) → (List.range' k xs.length).filterMap f = xs
  | [], _, _ => rfl
  | x :: xs, k, h => by
    rw [List.length_cons, List.range'_succ, List.filterMap_cons]
    have h0 : f k = some x := h 0
    rw [h0]
    simp only
    rw [range_filterMap f xs (k + 1) fun i => by rw [Nat.add_assoc, Nat.add_comm 1 i]; exact h (i + 1)]
theorem out_perm {p : Array Nat} (hp : Pm xs.length p) : (p.toList.filterMap fun i => xs[i]?).Perm xs := by
  refine (hp.perm.filterMap _).trans (.of_eq ?_)
  rw [List.range_eq_range']
  exact range_filterMap (fun i => xs[i]?) xs 0 fun i => by rw [Nat.zero_add]
theorem out_sorted {p : Array Nat} (hp : Pm xs.length p) (hs : SortTo (ltOf rk xs) p xs.length) : (p.toList.filterMap fun i => xs[i]?).Pairwise fun a b => rk a ≤ rk b := by
  rw [List.pairwise_filterMap, List.pairwise_iff_getElem]
  intro i j hi hj hij a ha b hb
  have hl : p.toList.length = xs.length := by simpa using hp.size
  have := hs i j hij (by lia)
  have ei : gd0 p i = p.toList[i] := by simp [gd0, Array.getD, show i < p.size by simpa using hi]
  have ej : gd0 p j = p.toList[j] := by simp [gd0, Array.getD, show j < p.size by simpa using hj]
  rw [ei, ej] at this
  simp only [ltOf, ha, hb, decide_eq_true_eq, Option.elim_some] at this
  lia
theorem out_rd {X : Addr → Prop} {h : Heap} {vs : List Value} {enc : α → PyData} (r : RdL X h vs (xs.map enc)) : ∀ (l : List Nat), (∀ i, i ∈ l → i < xs.length) → RdL X h (l.map fun i => vs.getD i Value.none) ((l.filterMap fun i => xs[i]?).map enc)
  | [], _ => .nil
  | i :: l, hl => by
    have hi := hl i (.head _)
    have e : xs[i]? = some xs[i] := by simp [hi]
    obtain ⟨v, hv, rv⟩ := r.get (i := i) (b := enc xs[i]) (by simp [hi])
    rw [List.map_cons, List.filterMap_cons, e, List.map_cons]
    refine .cons ?_ (out_rd r l fun j hj => hl j (.tail _ hj))
    rw [List.getD_eq_getElem?_getD, hv]
    exact rv
theorem out_good {X : Addr → Prop} {h : Heap} {vs : List Value} {enc : α → PyData} {p : Array Nat} (r : RdL X h vs (xs.map enc)) (hn : (xs.map rk).Nodup) (hp : Pm xs.length p) (hs : SortTo (ltOf rk xs) p xs.length) : RdL X h (outOf vs p) ((sortBy rk xs).map enc) := by
  have := out_rd r p.toList fun i hi => by simpa using hp.perm.subset hi
  rw [sortBy_unique (out_perm hp) (out_sorted hp hs) hn] at this
  exact this
end

section
variable {prog : Program} {w : World} {A : Around} {E : Value → Shared → Prop} {X : Addr → Prop} {s : Shared} {α : Type} {xs : List α} {key : α → PyData} {rk : α → Nat} {κ κ' : SortKind} {vs ks : List Value}
theorem sort_lt2 (hk : RdL X s.heap ks (xs.map key)) (hl : ks.length = vs.length) (h2 : vs.toArray.size < 2) {Q : PUnit × SortSt → Shared → Prop}
    (h : ∀ p st', Pm xs.length p → SortTo (ltOf rk xs) p xs.length → (arrOf st').map (·.2) = (outOf vs p).toArray → failedOf st' = none → Q (⟨⟩, st') s) :
    wpAny (model prog w) A ((pure PUnit.unit : StateT SortSt Sem PUnit).run (SortSt.mk' general' (ks.toArray.zip vs.toArray) #[] 7 none)) Q E s := by
  have hxs : xs.length = vs.length := by rw [← hl, hk.len, List.length_map]
  rw [StateT.run_pure]
  refine wpAny_pure (h (List.toArray (List.range xs.length)) _ ⟨by simp, by simp⟩ ?_ ?_ rfl)
  · intro a b hab hb
    simp at h2; lia
  · have e : (arrOf (SortSt.mk' general' (ks.toArray.zip vs.toArray) #[] 7 none)) = ks.toArray.zip vs.toArray := rfl
    rw [e]
    unfold outOf
    apply Array.toList_inj.mp
    rw [hxs]
    simp only [Array.toList_map, Array.toList_zip]
    refine List.ext_getElem? fun i => ?_
    by_cases hi : i < vs.length
    · simp [hi, hl]
    · simp [hi, hl]
theorem sort_ge2 (hk : RdL X s.heap ks (xs.map key)) (hsh : KeySh (xs.map key) κ) (hl : ks.length = vs.length) (h2 : ¬ vs.toArray.size < 2) (h64 : vs.length < 64) (hn : (xs.map rk).Nodup)
    (hlt : ∀ a b, a ∈ xs → b ∈ xs → rk a ≠ rk b → ltd (key a) (key b) = some (decide (rk a < rk b))) (hu : ∀ a, a ∈ xs → A.units + (key a).depth < cLine) {Q : PUnit × SortSt → Shared → Prop}
    (h : ∀ p st', Pm xs.length p → SortTo (ltOf rk xs) p xs.length → (arrOf st').map (·.2) = (outOf vs p).toArray → failedOf st' = none → Q (⟨⟩, st') s) :
    wpAny (model prog w) A ((sortRuns').run (SortSt.mk' κ (ks.toArray.zip vs.toArray) #[] 7 none)) Q E s := by
  have hxs : xs.length = vs.length := by rw [← hl, hk.len, List.length_map]
  have h2' : 2 ≤ vs.length := by simp at h2; lia
  refine wpAny_mono (kat_run (Q := fun st' s' => s' = s ∧ ∃ p, Pm xs.length p ∧ SortTo (ltOf rk xs) p xs.length ∧ (arrOf st').map (·.2) = (outOf vs p).toArray ∧ failedOf st' = none) (G := fun p s' => s' = s ∧ Pm xs.length p ∧ SortTo (ltOf rk xs) p xs.length) hl h2' h64 ?_ ?_) ?_ fun _ _ e => e
  · rintro p st' s' hp har hf ⟨rfl, hpm, hst⟩
    exact ⟨rfl, p, hpm, hst, kat_snds hl har, hf⟩
  · have hq := sort_spec (n := vs.length) (lt := ltOf rk xs) (Inv := fun s' => s' = s) (cmp := kas_ask prog w A κ ks) (Q := fun p s' => s' = s ∧ Pm xs.length p ∧ SortTo (ltOf rk xs) p xs.length) (s := s) (hxs ▸ ltOf_ord hn) ?_ rfl (by lia) fun q s' e hp hs => ⟨e, hxs ▸ hp, hxs ▸ hs⟩
    · exact hq
    · rintro i j C s' hi hj hij rfl hC
      unfold kas_ask
      have ei : xs[i]? = some (xs[i]'(by lia)) := by simp [hxs, hi]
      have ej : xs[j]? = some (xs[j]'(by lia)) := by simp [hxs, hj]
      obtain ⟨v, hv, rv⟩ := hk.get (i := i) (b := key (xs[i]'(by lia))) (by simp [hxs, hi])
      obtain ⟨u, hu', ru⟩ := hk.get (i := j) (b := key (xs[j]'(by lia))) (by simp [hxs, hj])
      rw [List.getD_eq_getElem?_getD, List.getD_eq_getElem?_getD, hv, hu']
      have mi : xs[i]'(by lia) ∈ xs := List.getElem_mem _
      have mj : xs[j]'(by lia) ∈ xs := List.getElem_mem _
      have ne : rk (xs[i]'(by lia)) ≠ rk (xs[j]'(by lia)) := fun e => by
        have := (List.getElem?_inj (l := xs.map rk) (i := i) (j := j) (by simp; lia) hn).mp (by simp [ei, ej, e])
        exact hij this
      have hu1 := hu _ mi
      refine keyLt_sh hsh (List.mem_map_of_mem mi) (List.mem_map_of_mem mj) rv ru (hlt _ _ mi mj ne) (by lia) ?_
      have := hC s' rfl
      simp only [ltOf, ei, ej, Option.elim_some] at this
      exact this
  · rintro ⟨⟨⟩, st'⟩ s' ⟨rfl, p, a, b, c, d⟩
    exact h p st' a b c d

/-- x.sort() -/
theorem sort_plain {D : Addr} {n : Nat} {P : PySem.Fin → Shared → Prop} (ho : s.heap.get? D = some (seqObj "list" vs.toArray n)) (hX : X D) (hk : RdL X s.heap vs (xs.map key)) (hsh : KeySh (xs.map key) κ) (h64 : vs.length < 64) (hn : (xs.map rk).Nodup)
    (hlt : ∀ a b, a ∈ xs → b ∈ xs → rk a ≠ rk b → ltd (key a) (key b) = some (decide (rk a < rk b))) (hu : ∀ a, a ∈ xs → A.units + (key a).depth < cLine)
    (h : ∀ p h' c, Pm xs.length p → SortTo (ltOf rk xs) p xs.length → Heap.ExtBut D s.heap h' → h'.get? D = some (seqObj "list" (outOf vs p).toArray c) → P (.done (.ret .none)) { s with heap := h' }) :
    wpAny (model prog w) A (Builtin.«list.sort» ⟨[.ref D], []⟩) P E s := by
  have hD : D < s.heap.objs.size := Heap.lt_size ho
  have s1 := Heap.SameBut.update s.heap D (Obj.mapSeq fun _ => (#[] : Array Value))
  obtain ⟨e1, ho1⟩ : ∃ e1, (s.heap.update D (Obj.mapSeq fun _ => (#[] : Array Value))).get? D = some (seqObj "list" #[] e1) := ⟨_, get?_update_seq ho fun _ => #[]⟩
  rw [list_sort_plain]
  refine wpAny_bind (listItems_at ho rfl ?_)
  refine wpAny_bind (listUpdate_at ho rfl ?_ (by rw [List.size_toArray, sizeLine_eq]; lia) (Nat.zero_le _))
  refine wpAny_bind (seqEpoch_at ho1 rfl ?_)
  refine wpAny_bind (wpAny_newTuple ?_ (by show vs.length ≤ _; rw [sizeLine_eq]; lia))
  refine wpAny_bind (wpAny_newList ?_ (Nat.zero_le _))
  refine wpAny_holding ?_
  show wpAny (model prog w) A _ P E { s with heap := ((s.heap.update D (Obj.mapSeq fun _ => (#[] : Array Value))).push (seqObj "tuple" vs.toArray 0)).push (seqObj "list" #[] 0) }
  generalize hH : ((s.heap.update D (Obj.mapSeq fun _ => (#[] : Array Value))).push (seqObj "tuple" vs.toArray 0)).push (seqObj "list" #[] 0) = H
  have up : Heap.ExtBut D s.heap H := fun b o nb e => by rw [← hH]; exact Heap.get?_push_of_some _ (Heap.get?_push_of_some _ (s1.extBut b o nb e))
  have hoD : H.get? D = some (seqObj "list" #[] e1) := by rw [← hH]; exact Heap.get?_push_of_some _ (Heap.get?_push_of_some _ ho1)
  have hk' : RdL X H vs (xs.map key) := hk.up fun b o nb e => up b o (fun q => nb (q ▸ hX)) e
  dsimp only
  by_cases h2 : vs.toArray.size < 2
  · rw [if_pos h2, if_pos h2]
    refine wpAny_bind (wpAny_pure ?_)
    refine wpAny_bind (sort_lt2 (s := { s with heap := H }) (rk := rk) hk' rfl h2 fun p st' hp hs har hf => ?_)
    dsimp only
    rw [har]
    obtain ⟨c2, hc2⟩ : ∃ c2, (H.update D (Obj.mapSeq fun _ => (outOf vs p).toArray)).get? D = some (seqObj "list" (outOf vs p).toArray c2) := ⟨_, get?_update_seq hoD fun _ => (outOf vs p).toArray⟩
    have hsz : (outOf vs p).toArray.size = vs.length := by
      rw [List.size_toArray, outOf, List.length_map, Array.length_toList, hp.size, ← List.length_map (f := key), ← hk.len]
    refine wpAny_bind (seqEpoch_at hoD rfl ?_)
    refine wpAny_bind (listUpdate_at hoD rfl ?_ (Nat.zero_le _) (Nat.le_trans (Nat.le_of_eq hsz) (by rw [sizeLine_eq]; lia)))
    rw [hf]
    simp only [bne_self_eq_false, Bool.false_eq_true, if_false]
    exact wpAny_pure (h p _ c2 hp hs (fun b o nb e => (Heap.SameBut.update H D (Obj.mapSeq fun _ => (outOf vs p).toArray)).extBut b o nb (up b o nb e)) hc2)
  · rw [if_neg h2, if_neg h2]
    refine wpAny_bind (keyKind_sh (s := { s with heap := H }) hk' hsh (by simp at h2; lia) ?_)
    refine wpAny_bind (sort_ge2 (s := { s with heap := H }) hk' hsh rfl h2 h64 hn hlt hu fun p st' hp hs har hf => ?_)
    dsimp only
    rw [har]
    obtain ⟨c2, hc2⟩ : ∃ c2, (H.update D (Obj.mapSeq fun _ => (outOf vs p).toArray)).get? D = some (seqObj "list" (outOf vs p).toArray c2) := ⟨_, get?_update_seq hoD fun _ => (outOf vs p).toArray⟩
    have hsz : (outOf vs p).toArray.size = vs.length := by
      rw [List.size_toArray, outOf, List.length_map, Array.length_toList, hp.size, ← List.length_map (f := key), ← hk.len]
    refine wpAny_bind (seqEpoch_at hoD rfl ?_)
    refine wpAny_bind (listUpdate_at hoD rfl ?_ (Nat.zero_le _) (Nat.le_trans (Nat.le_of_eq hsz) (by rw [sizeLine_eq]; lia)))
    rw [hf]
    simp only [bne_self_eq_false, Bool.false_eq_true, if_false]
    exact wpAny_pure (h p _ c2 hp hs (fun b o nb e => (Heap.SameBut.update H D (Obj.mapSeq fun _ => (outOf vs p).toArray)).extBut b o nb (up b o nb e)) hc2)
end
end Mine
set_option maxRecDepth 100000
set_option maxHeartbeats 2000000
namespace Mine
open PySem PySem.W PyProof.Rows PySem.Calls

section
variable {prog : Program} {w : World} {A : Around} {G : Gn} {X W : Addr → Prop} {env : Env} {σ : List (Str × VD)} {cs : List (Addr × Cell)} {s : Shared}

/-- a builtin function -/
noncomputable def FnB (prog : Program) (w : World) (A : Around) (G : Gn) (X : Addr → Prop) (id : String) (xs : List VD) (z : VD) : Prop :=
  ∀ s vs, Ok G X s → AtL G X s.heap vs xs → wpAny (model prog w) A (call (.builtin id) vs) (fun v s' => QQ G s s' ∧ z.At G X s'.heap v) FF s
/-- in the state of the call -/
noncomputable def FnI (prog : Program) (w : World) (A : Around) (G : Gn) (X W : Addr → Prop) (env : Env) (σ : List (Str × VD)) (cs : List (Addr × Cell)) (f : Value) (xs : List VD) (z : VD) : Prop :=
  ∀ s vs, In G X W env σ cs s → AtL G (Or2 X W) s.heap vs xs → wpAny (model prog w) A (call f vs) (fun v s' => QQ G s s' ∧ z.At G (Or2 X W) s'.heap v) FF s
theorem FnB.to {id : String} {xs : List VD} {z : VD} (h : FnB prog w A G (Or2 X W) id xs z) : FnI prog w A G X W env σ cs (.builtin id) xs z := fun s vs i r => h s vs i.ok r
theorem Ev.callB {f : Str} {p pos : Pos} {e : Expr} {es : List Expr} {id : String} {xs : List VD} {z : VD} (hf : Ev prog w A G X W env σ cs (.Name f p) (.is (.builtin id))) (h : EvL prog w A G X W env σ cs (e :: es) xs) (hB : FnI prog w A G X W env σ cs (.builtin id) xs z)
    (he : starEach (e :: es) env = (false, eval e env) :: starEach es env := by rfl) (hplain : (backTo pos (starEach es env)).any (·.1) = false := by rfl) : Ev prog w A G X W env σ cs (.Call (.Name f p) (e :: es) [] pos) z := by
  refine ⟨fun s i => ?_⟩
  refine Call_Name rfl (wff (hf.run s i) fun fv s₁ ⟨k, r⟩ => ?_)
  have r' : fv = .builtin id := r
  subst r'
  refine callWith_builtin1 (wff (h.run pos s₁ (i.quiet k)) fun vs s₂ ⟨k2, r2⟩ => ?_) he hplain
  exact wff (hB s₂ vs ((i.quiet k).quiet k2) r2) fun v s₃ ⟨k3, r3⟩ => ⟨(k.trans k2).trans k3, r3⟩

/-- sorted(l): the copy is sorted -/
theorem sorted_go {E : Value → Shared → Prop} {l : Addr} {vs : List Value} {kw : List (Str × Value)} {Q : Value → Shared → Prop} (hl : s.heap.IsList l vs.toArray) (h64 : vs.length < 64) (ha1 : argsOk "sorted" ⟨[.ref l], kw⟩) (ha2 : ∀ x, argsOk "list.sort" ⟨[.ref x], kw⟩)
    (h : ∀ D h', s.heap.get? D = none → (∀ b o, s.heap.get? b = some o → h'.get? b = some o) → h'.get? D = some (seqObj "list" vs.toArray 0) →
      wpAny (model prog w) A.in1.in1 (Builtin.«list.sort» ⟨[.ref D], kw⟩) (fun f s' => f = .done (.ret .none) ∧ Q (.ref D) s') E { s with heap := h' }) :
    wpAny (model prog w) A (call (.builtin "sorted") [.ref l] kw) Q E s := by
  refine call_function_entry_kw kind_sorted plain_sorted entry_sorted ha1 ?_
  unfold Builtin.«sorted»
  refine wpAny_bind (m := checkCount "sorted" 1 1 _) (wpAny_pure ?_)
  refine wpAny_bind (collect_list hl ?_ (by rw [sizeLine_eq]; lia))
  refine wpAny_bind (wpAny_newList ?_ (by rw [sizeLine_eq]; lia))
  generalize hH : (s.heap.push (seqObj "list" #[] 0)).update s.heap.objs.size (Obj.mapSeq (· ++ vs.toArray)) = H1
  have hsz : H1.objs.size = s.heap.objs.size + 1 := by
    rw [← hH, Heap.size_update, size_push']
  have keep1 : ∀ b o, s.heap.get? b = some o → H1.get? b = some o := fun b o q => by
    have hlt : b < s.heap.objs.size := Heap.lt_size q
    rw [← hH, Heap.get?_update_ne _ _ _ _ (Nat.ne_of_lt hlt), Heap.get?_push_ne _ _ _ (Nat.ne_of_lt hlt)]
    exact q
  show wpAny _ _ _ _ _ { s with heap := H1.push (seqObj "list" vs.toArray 0) }
  have hoL : (H1.push (seqObj "list" vs.toArray 0)).get? H1.objs.size = some (seqObj "list" vs.toArray 0) := Heap.get?_push_size _ rfl
  refine wpAny_bind (wpAny_holding (wpAny_call_entry_kw slot_list_sort ⟨_, hoL, rfl⟩ entry_list_sort ?_ (ha2 _)))
  refine wpAny_mono (h H1.objs.size _ (Heap.get?_none_of_le (by rw [hsz]; lia)) (fun b o e => Heap.get?_push_of_some _ (keep1 b o e)) hoL) (fun f s' ⟨hf, hq⟩ => ⟨_, hf, wpAny_pure ⟨_, rfl, hq⟩⟩) fun _ _ x => x

theorem Ok.noB (i : Ok G X s) {C : Addr} (hC : s.heap.get? C = none) : G.B.get? C = none ∧ ¬ G.jk C ∧ ¬ X C := by
  refine ⟨?_, fun j => ?_, fun j => ?_⟩
  · cases e : G.B.get? C with
    | none => rfl
    | some o => rw [i.gd.fr.keep C o e] at hC; cases hC
  · obtain ⟨o, e⟩ := i.hx C (i.jk C j); rw [hC] at e; cases e
  · obtain ⟨o, e⟩ := i.hx C j; rw [hC] at e; cases e
theorem sortedB {α : Type} {xs : List α} {enc : α → PyData} {rk : α → Nat} {κ : SortKind} (hsh : KeySh (xs.map enc) κ) (h64 : xs.length < 64) (hn : (xs.map rk).Nodup)
    (hlt : ∀ a b, a ∈ xs → b ∈ xs → rk a ≠ rk b → ltd (enc a) (enc b) = some (decide (rk a < rk b))) (hu : ∀ a, a ∈ xs → A.units + 2 + (enc a).depth < cLine) :
    FnB prog w A G X "sorted" [.dat (.list (xs.map enc))] (.dat (.list ((sortBy rk xs).map enc))) := by
  intro s vs i r
  obtain _ | ⟨r, _ | _⟩ := r
  obtain ⟨l, its, n, rfl, nx, e, rl⟩ := Rd.list_inv r
  have hlen : its.toList.length = xs.length := by rw [rl.len, List.length_map]
  refine sorted_go (vs := its.toList) ⟨_, e, rfl, n, rfl⟩ (by lia) (args_sorted1 _) (fun _ => args_list_sort _) fun D h' hD up hoD => ?_
  obtain ⟨hB, hj, hX⟩ := i.noB hD
  have k1 : QQ G s { s with heap := h' } := QS.up (tk := s.toks) up
  have rl' : RdL (Or2 X (· = D)) h' its.toList (xs.map enc) := rl.step (fun b o _ e => up b o e) fun b o nb e q => q.elim nb fun q => by rw [q, hD] at e; cases e
  refine sort_plain (X := Or2 X (· = D)) (s := { s with heap := h' }) hoD (.inr rfl) rl' hsh (by lia) hn hlt (fun a ha => hu a ha) fun p h2 c hp hs hx hc => ⟨rfl, ?_⟩
  have q : QQ G s { s with heap := h2 } := (k1.chain (W' := (· = D)) (fun a ha => .inr (by rw [ha]; exact hD)) (QS.but (tk := s.toks) hx hoD hc hB hj (.of fun _ => nofun) rfl))
  refine ⟨q, .list (n := c) hX (by exact hc) ?_⟩
  rw [List.toList_toArray]
  exact (out_good rl' hn hp hs).step (fun b o nb e => hx b o (fun z => nb (.inr z)) e) fun b o nb e q => nb (.inl q)
end
end Mine
set_option maxRecDepth 100000
set_option maxHeartbeats 2000000
namespace Mine
open PySem PySem.W PyProof.Rows PySem.Calls

section
variable {prog : Program} {w : World} {A : Around} {G : Gn} {X W : Addr → Prop} {env : Env} {σ : List (Str × VD)} {cs : List (Addr × Cell)} {s : Shared}
/-- what a key asked for answers -/
noncomputable def KeyFn {α : Type} (prog : Program) (w : World) (A : Around) (G : Gn) (X W : Addr → Prop) (env : Env) (σ : List (Str × VD)) (cs : List (Addr × Cell)) (kp : List (Addr × Obj)) (f : Value) (xs : List α) (enc key : α → PyData) : Prop :=
  ∀ a X' s v, a ∈ xs → (∀ b, X b → X' b) → In G X' W env σ cs s → (∀ p, p ∈ kp → s.heap.get? p.1 = some p.2) → Rd (Or2 X' W) s.heap v (enc a) → wpAny (model prog w) A (call f [v]) (fun k s' => QQ G s s' ∧ Rd (Or2 X' W) s'.heap k (key a)) FF s

structure Loose (G : Gn) (X W : Addr → Prop) (cs : List (Addr × Cell)) (kp : List (Addr × Obj)) (C : Addr) : Prop where
  x : X C
  w : ¬ W C
  j : ¬ G.jk C
  b : G.B.get? C = none
  c : ∀ p, p ∈ cs → p.1 ≠ C
  k : ∀ p, p ∈ kp → p.1 ≠ C
theorem In.loose {kp : List (Addr × Obj)} (i : In G X W env σ cs s) {C : Addr} {h : Heap} {tk : Nat} {o o' : Obj} (l : Loose G X W cs kp C) (hs : Heap.ExtBut C s.heap h) (ho : s.heap.get? C = some o) (ho' : h.get? C = some o') (hf : NotCode o) :
    In G X W env σ cs { s with heap := h, toks := tk } ∧ QS G (· = C) s { s with heap := h, toks := tk } :=
  ⟨i.but hs ho ho' l.x l.w l.j l.b hf l.c, QS.but hs ho ho' l.b l.j hf rfl⟩

noncomputable abbrev Two (D kS : Addr) : Addr → Prop := fun b => b = D ∨ b = kS
/-- the state of a sort under way -/
structure Srt (G : Gn) (X W : Addr → Prop) (env : Env) (σ : List (Str × VD)) (cs : List (Addr × Cell)) (kp : List (Addr × Obj)) (D kS : Addr) (e1 : Nat) (vs : List Value) (ds : List PyData) (s₀ s : Shared) (ks : List Value) (es : List PyData) : Prop where
  i : In G X W env σ cs s
  lD : Loose G X W cs kp D
  lk : Loose G X W cs kp kS
  ne : D ≠ kS
  oD : s.heap.get? D = some (seqObj "list" #[] e1)
  ok : ∃ c, s.heap.get? kS = some (seqObj "list" (List.toArray ks) c)
  kp : ∀ p, p ∈ kp → s.heap.get? p.1 = some p.2 ∧ ¬ G.jk p.1
  rv : RdL (Or2 X W) s.heap vs ds
  rk : RdL (Or2 X W) s.heap ks es
  q : QS G (Two D kS) s₀ s
variable {kp : List (Addr × Obj)} {D kS : Addr} {e1 : Nat} {vs ks : List Value} {ds es : List PyData} {s₀ : Shared}
theorem Srt.quiet {s' : Shared} (t : Srt G X W env σ cs kp D kS e1 vs ds s₀ s ks es) (k : QQ G s s') : Srt G X W env σ cs kp D kS e1 vs ds s₀ s' ks es :=
  have up : ∀ b o, ¬ Or2 X W b → s.heap.get? b = some o → s'.heap.get? b = some o := fun b o nb e => k.keep b o id (fun z => nb (.inl (t.i.jk b z))) e
  ⟨t.i.quiet k, t.lD, t.lk, t.ne, k.keep _ _ id t.lD.j t.oD, let ⟨c, e⟩ := t.ok; ⟨c, k.keep _ _ id t.lk.j e⟩, fun p hp => ⟨k.keep _ _ id (t.kp p hp).2 (t.kp p hp).1, (t.kp p hp).2⟩, t.rv.up up, t.rk.up up, t.q.trans k.to⟩
theorem Srt.push (t : Srt G X W env σ cs kp D kS e1 vs ds s₀ s ks es) {k : Value} {d : PyData} (r : Rd (Or2 X W) s.heap k d) :
    Srt G X W env σ cs kp D kS e1 vs ds s₀ { s with heap := s.heap.update kS (Obj.mapSeq (·.push k)) } (ks ++ [k]) (es ++ [d]) := by
  obtain ⟨c, e⟩ := t.ok
  have s1 := (Heap.SameBut.update s.heap kS (Obj.mapSeq (·.push k))).extBut
  obtain ⟨c2, hc⟩ : ∃ c2, (s.heap.update kS (Obj.mapSeq (·.push k))).get? kS = some (seqObj "list" (List.toArray (ks ++ [k])) c2) := by
    have ea : (List.toArray ks).push k = List.toArray (ks ++ [k]) := by simp
    exact ⟨_, by rw [← ea]; exact get?_update_seq e (·.push k)⟩
  have := t.i.loose (tk := s.toks) t.lk s1 e hc (.of fun _ => nofun)
  have up : ∀ b o, ¬ Or2 X W b → s.heap.get? b = some o → (s.heap.update kS (Obj.mapSeq (·.push k))).get? b = some o := fun b o nb e => s1 b o (fun z => nb (.inl (by rw [z]; exact t.lk.x))) e
  exact ⟨this.1, t.lD, t.lk, t.ne, s1 _ _ t.ne t.oD, ⟨_, hc⟩, fun p hp => ⟨s1 _ _ (t.lk.k p hp) (t.kp p hp).1, (t.kp p hp).2⟩, t.rv.up up, (t.rk.up up).app (.one (r.up up)), t.q.trans (this.2.weak fun b e => .inl (.inr e))⟩

variable {α : Type} {xs : List α} {enc key : α → PyData} {rk : α → Nat} {κ : SortKind}
theorem keys_loop {E : Value → Shared → Prop} {f : Value} {body : Value → PUnit → Sem (ForInStep PUnit)} (hK : KeyFn prog w A G X W env σ cs kp f xs enc key) (h64 : xs.length < 64)
    (hb : ∀ x ks c (s : Shared) (C : Value → Shared → Prop), List.length ks < 64 → wpAny (model prog w) A (call f [x]) (fun k s' => s'.heap.get? kS = some (seqObj "list" (List.toArray ks) c) ∧ C k s') FF s → 
      wpAny (model prog w) A (body x ⟨⟩) (fun r s' => r = .yield ⟨⟩ ∧ ∃ k s2, C k s2 ∧ s' = { s2 with heap := s2.heap.update kS (Obj.mapSeq (·.push k)) }) E s) :
    ∀ (us : List Value) (ys zs : List α) (s : Shared) (ks : List Value), xs = ys ++ zs → RdL (Or2 X W) s.heap us (zs.map enc) → Srt G X W env σ cs kp D kS e1 vs ds s₀ s ks (ys.map key) →
      wpAny (model prog w) A (forIn us PUnit.unit body) (fun _ s' => ∃ ks, Srt G X W env σ cs kp D kS e1 vs ds s₀ s' ks (xs.map key)) E s
  | [], ys, zs, s, ks, hx, r, t => by
    have : zs = [] := by
      cases zs with
      | nil => rfl
      | cons _ _ => cases r
    subst this
    rw [List.forIn_nil]
    rw [List.append_nil] at hx
    exact wpAny_pure ⟨ks, hx ▸ t⟩
  | u :: us, ys, zs, s, ks, hx, r, t => by
    obtain ⟨z, zs, rfl⟩ : ∃ z zs', zs = z :: zs' := by
      cases zs with
      | nil => cases r
      | cons z zs => exact ⟨z, zs, rfl⟩
    rw [List.map_cons] at r
    cases r with
    | cons ru rs =>
    have hl : ks.length = ys.length := by rw [t.rk.len, List.length_map]
    have hm : z ∈ xs := by rw [hx]; simp
    have hlen : ys.length < 64 := by rw [hx] at h64; simp at h64; lia
    rw [List.forIn_cons]
    obtain ⟨c, ec⟩ := t.ok
    refine wpAny_bind (wpAny_mono (hb u ks c s (fun k s' => QQ G s s' ∧ Rd (Or2 X W) s'.heap k (key z)) (by lia) ?_) (fun q s' hq => ?_) fun _ _ x => x)
    · exact wff (hK z X s u hm (fun _ h => h) t.i (fun p hp => (t.kp p hp).1) ru) fun k s' ⟨q, rk⟩ => ⟨q.keep _ _ id t.lk.j ec, q, rk⟩
    · obtain ⟨rfl, k, s2, ⟨q2, rk2⟩, rfl⟩ := hq
      show wpAny (model prog w) A (forIn us PUnit.unit body) _ E _
      have t2 := (t.quiet q2).push rk2
      have hrs : RdL (Or2 X W) (s2.heap.update kS (Obj.mapSeq (·.push k))) us (zs.map enc) := by
        refine (rs.up (fun b o nb e => q2.keep b o id (fun z => nb (.inl (t.i.jk b z))) e)).up fun b o nb e => (Heap.SameBut.update s2.heap kS (Obj.mapSeq (·.push k))).extBut b o (fun z => nb (.inl (by rw [z]; exact t.lk.x))) e
      refine keys_loop hK h64 hb us (ys ++ [z]) zs _ (ks ++ [k]) (by rw [hx]; simp) hrs ?_
      rw [List.map_append]
      exact t2

theorem sort_tail {E : Value → Shared → Prop} {st : SortSt} {p : Array Nat} {P : PySem.Fin → Shared → Prop} (t : Srt G X W env σ cs kp D kS e1 vs ds s₀ s ks es) (h64 : ks.length < 64) (hv : (outOf vs p).length < 64) (har : (arrOf st).map (·.2) = (outOf vs p).toArray) (hf : failedOf st = none)
    (h : ∀ h' c, Heap.ExtBut D (s.heap.update kS (Obj.mapSeq fun _ => #[])) h' → h'.get? D = some (seqObj "list" (outOf vs p).toArray c) → QS G (Two D kS) s₀ { s with heap := h' } → (∀ b o, ¬ Or2 X W b → s.heap.get? b = some o → h'.get? b = some o) → P (.done (.ret .none)) { s with heap := h' }) :
    wpAny (model prog w) A (ksk_tail D false e1 (.ref kS) st) P E s := by
  obtain ⟨c, ec⟩ := t.ok
  have s1 := Heap.SameBut.update s.heap kS (Obj.mapSeq fun _ => (#[] : Array Value))
  obtain ⟨ck, hck⟩ : ∃ ck, (s.heap.update kS (Obj.mapSeq fun _ => (#[] : Array Value))).get? kS = some (seqObj "list" #[] ck) := ⟨_, get?_update_seq ec fun _ => #[]⟩
  have oD1 : (s.heap.update kS (Obj.mapSeq fun _ => (#[] : Array Value))).get? D = some (seqObj "list" #[] e1) := s1.extBut _ _ t.ne t.oD
  have s2 := Heap.SameBut.update (s.heap.update kS (Obj.mapSeq fun _ => (#[] : Array Value))) D (Obj.mapSeq fun _ => (outOf vs p).toArray)
  obtain ⟨c2, hc2⟩ : ∃ c2, ((s.heap.update kS (Obj.mapSeq fun _ => (#[] : Array Value))).update D (Obj.mapSeq fun _ => (outOf vs p).toArray)).get? D = some (seqObj "list" (outOf vs p).toArray c2) := ⟨_, get?_update_seq oD1 fun _ => (outOf vs p).toArray⟩
  unfold ksk_tail
  try dsimp only
  rw [har]
  refine wpAny_bind (listUpdate_at ec rfl ?_ (by rw [List.size_toArray, sizeLine_eq]; lia) (Nat.zero_le _))
  refine wpAny_bind (wpAny_letGo ?_)
  refine wpAny_bind (seqEpoch_at oD1 rfl ?_)
  simp only [Bool.false_eq_true, if_false]
  refine wpAny_bind (listUpdate_at oD1 rfl ?_ (Nat.zero_le _) (by rw [List.size_toArray, sizeLine_eq]; lia))
  rw [hf]
  simp only [bne_self_eq_false, Bool.false_eq_true, if_false]
  have q1 := t.i.loose (tk := s.toks) t.lk s1.extBut ec hck (.of fun _ => nofun)
  have q2 := q1.1.loose (tk := s.toks) t.lD s2.extBut oD1 hc2 (.of fun _ => nofun)
  refine wpAny_pure (h _ c2 s2.extBut hc2 ((t.q.trans (q1.2.weak fun b e => .inl (.inr e))).trans (q2.2.weak fun b e => .inl (.inl e))) fun b o nb e => ?_)
  exact s2.extBut b o (fun z => nb (.inl (by rw [z]; exact t.lD.x))) (s1.extBut b o (fun z => nb (.inl (by rw [z]; exact t.lk.x))) e)

/-- x.sort(key=f) -/
theorem sort_keyed {E : Value → Shared → Prop} {f : Value} {n : Nat} {P : PySem.Fin → Shared → Prop} (i : In G X W env σ cs s) (lD : Loose G X W cs kp D) (ho : s.heap.get? D = some (seqObj "list" vs.toArray n)) (hv : RdL (Or2 X W) s.heap vs (xs.map enc))
    (hkp : ∀ p, p ∈ kp → s.heap.get? p.1 = some p.2 ∧ ¬ G.jk p.1) (hK : KeyFn prog w A G X W env σ cs kp f xs enc key) (hsh : KeySh (xs.map key) κ) (h64 : xs.length < 64) (hn : (xs.map rk).Nodup)
    (hlt : ∀ a b, a ∈ xs → b ∈ xs → rk a ≠ rk b → ltd (key a) (key b) = some (decide (rk a < rk b))) (hu : ∀ a, a ∈ xs → A.units + (key a).depth < cLine)
    (h : ∀ kS p c s', s.heap.get? kS = none → Pm xs.length p → SortTo (ltOf rk xs) p xs.length → s'.heap.get? D = some (seqObj "list" (outOf vs p).toArray c) → QS G (Two D kS) s s' → (∀ b o, ¬ Or2 X W b → s.heap.get? b = some o → s'.heap.get? b = some o) → P (.done (.ret .none)) s') :
    wpAny (model prog w) A (ksk_tree D f false) P E s := by
  have hlen : vs.length = xs.length := by rw [hv.len, List.length_map]
  have hD : D < s.heap.objs.size := Heap.lt_size ho
  have s1 := Heap.SameBut.update s.heap D (Obj.mapSeq fun _ => (#[] : Array Value))
  obtain ⟨e1, ho1⟩ : ∃ e1, (s.heap.update D (Obj.mapSeq fun _ => (#[] : Array Value))).get? D = some (seqObj "list" #[] e1) := ⟨_, get?_update_seq ho fun _ => #[]⟩
  unfold ksk_tree
  refine wpAny_bind (listItems_at ho rfl ?_)
  refine wpAny_bind (listUpdate_at ho rfl ?_ (by rw [List.size_toArray, sizeLine_eq]; lia) (Nat.zero_le _))
  refine wpAny_bind (seqEpoch_at ho1 rfl ?_)
  refine wpAny_bind (wpAny_newTuple ?_ (by show vs.length ≤ _; rw [sizeLine_eq]; lia))
  refine wpAny_bind (wpAny_newList ?_ (Nat.zero_le _))
  refine wpAny_holding ?_
  have q1 := i.loose (tk := s.toks) lD s1.extBut ho ho1 (.of fun _ => nofun)
  generalize hH1 : s.heap.update D (Obj.mapSeq fun _ => (#[] : Array Value)) = H1 at *
  have hsz1 : H1.objs.size = s.heap.objs.size := by rw [← hH1, Heap.size_update]
  have kT : QQ G { s with heap := H1 } { s with heap := H1.push (seqObj "tuple" vs.toArray 0) } := QS.push _
  generalize hH2 : H1.push (seqObj "tuple" vs.toArray 0) = H2 at *
  have hsz2 : H2.objs.size = s.heap.objs.size + 1 := by rw [← hH2, Heap.size_push, hsz1]
  have kL : QQ G { s with heap := H2 } { s with heap := H2.push (seqObj "list" #[] 0) } := QS.push _
  have i2 := q1.1.quiet kT
  have hkS : s.heap.get? H2.objs.size = none := Heap.get?_none_of_le (by rw [hsz2]; lia)
  have hkS2 : H2.get? H2.objs.size = none := Heap.get?_none_of_le (Nat.le_refl _)
  have hok : (H2.push (seqObj "list" #[] 0)).get? H2.objs.size = some (seqObj "list" #[] 0) := Heap.get?_push_size _ rfl
  have i3 := i2.widen kL hkS2 hok
  obtain ⟨nB, nj, nX⟩ := i.noB hkS
  have hDk : D ≠ H2.objs.size := adn (by have := adl hD; rw [hsz2]; lia)
  have up3 : Heap.ExtBut D s.heap (H2.push (seqObj "list" #[] 0)) := fun b o nb e => Heap.get?_push_of_some _ (by rw [← hH2]; exact Heap.get?_push_of_some _ (s1.extBut b o nb e))
  have oD3 : (H2.push (seqObj "list" #[] 0)).get? D = some (seqObj "list" #[] e1) := Heap.get?_push_of_some _ (by rw [← hH2]; exact Heap.get?_push_of_some _ ho1)
  have hx3 : ∀ b o, ¬ Or2 X W b → s.heap.get? b = some o → ¬ Or2 (Xn X H2.objs.size) W b := fun b o nb e q => by
    rcases q with (q | q) | q
    · exact nb (.inl q)
    · rw [q, hkS] at e; cases e
    · exact nb (.inr q)
  have rv3 : RdL (Or2 (Xn X H2.objs.size) W) (H2.push (seqObj "list" #[] 0)) vs (xs.map enc) := hv.step (fun b o nb e => up3 b o (fun z => nb (.inl (by rw [z]; exact lD.x))) e) hx3
  have t : Srt G (Xn X H2.objs.size) W env σ cs kp D H2.objs.size e1 vs (xs.map enc) s { s with heap := H2.push (seqObj "list" #[] 0) } [] ([] : List PyData) :=
    ⟨i3, ⟨.inl lD.x, lD.w, lD.j, lD.b, lD.c, lD.k⟩, ⟨.inr rfl, fun z => nX (.inr z), nj, nB, fun p hp e => (i.ceNe nX p hp e), fun p hp e => by have := (hkp p hp).1; rw [e, hkS] at this; cases this⟩, hDk, oD3, ⟨0, hok⟩,
      fun p hp => ⟨up3 _ _ (lD.k p hp) (hkp p hp).1, (hkp p hp).2⟩, rv3, .nil, (q1.2.weak fun b e => .inl (.inl e)).trans ((QQ.to kT).trans (QQ.to kL))⟩
  have hK' : KeyFn prog w A G (Xn X H2.objs.size) W env σ cs kp f xs enc key := fun a X' s v ha hX i h r => hK a X' s v ha (fun b hb => hX b (.inl hb)) i h r
  unfold ksk_rest
  refine wpAny_bind (wpAny_rule ?_)
  first
    | rw [List.forIn_toArray]
    | (rw [← Array.forIn_toList]; simp only [List.toList_toArray])
    | rw [← Array.forIn_toList]
  refine wpAny_bind (wpAny_mono (keys_loop hK' h64 (fun x ks c s' C hz hx => ?_) vs [] xs { s with heap := H2.push (seqObj "list" #[] 0) } [] rfl rv3 t) (fun _ s' hd => ?_) fun _ _ x => x)
  · refine wpAny_bind (wpAny_attempt (wpAny_mono hx (fun k s'' hk => ?_) fun _ _ hF => hF.elim))
    obtain ⟨ek, hC⟩ := hk
    try dsimp only
    refine wpAny_bind (listUpdate_at ek rfl ?_ (by rw [List.size_toArray, sizeLine_eq]; lia) (Nat.le_trans (Nat.le_of_eq (Array.size_push ..)) (by rw [List.size_toArray, sizeLine_eq]; lia)))
    exact wpAny_pure ⟨rfl, k, s'', hC, rfl⟩
  · obtain ⟨ks, t'⟩ := hd
    obtain ⟨c, ec⟩ := t'.ok
    try dsimp only
    refine wpAny_bind (listItems_at ec rfl ?_)
    have hlk : ks.length = vs.length := by rw [t'.rk.len, List.length_map, hlen]
    unfold ksk_end
    simp only [Bool.false_eq_true, if_false]
    have fin : ∀ p st', Pm xs.length p → SortTo (ltOf rk xs) p xs.length → (arrOf st').map (·.2) = (outOf vs p).toArray → failedOf st' = none → wpAny (model prog w) A (ksk_tail D false e1 (.ref H2.objs.size) st') P E s' := by
      intro p st' hp hs har hf
      refine sort_tail t' (by lia) (by unfold outOf; rw [List.length_map, Array.length_toList, hp.size]; lia) har hf fun h' c hx hc q up => ?_
      refine h H2.objs.size p c _ hkS hp hs hc q fun b o nb e => up b o (hx3 b o nb e) ?_
      have hb1 : b ≠ D := fun z => nb (.inl (by rw [z]; exact lD.x))
      have hb2 : b ≠ H2.objs.size := fun z => by rw [z, hkS] at e; cases e
      exact t'.q.keep b o (fun z => z.elim hb1 hb2) (fun z => nb (.inl (i.jk b z))) e
    by_cases h2 : vs.toArray.size < 2
    · rw [if_pos h2, if_pos h2]
      refine wpAny_bind (wpAny_pure ?_)
      refine wpAny_bind (sort_lt2 (s := s') (rk := rk) t'.rk hlk h2 fun p st' hp hs har hf => fin p st' hp hs har hf)
    · rw [if_neg h2, if_neg h2]
      refine wpAny_bind (keyKind_sh (s := s') t'.rk hsh (by simp at h2; lia) ?_)
      refine wpAny_bind (sort_ge2 (s := s') t'.rk hsh hlk h2 (by lia) hn hlt hu fun p st' hp hs har hf => fin p st' hp hs har hf)
end
end Mine
set_option maxRecDepth 100000
set_option maxHeartbeats 2000000
namespace Mine
open PySem PySem.W PyProof.Rows PySem.Calls

section
variable {prog : Program} {w : World} {A : Around} {G : Gn} {X W : Addr → Prop} {env : Env} {σ : List (Str × VD)} {cs : List (Addr × Cell)} {s : Shared}

/-- the state of a function that closes over the frame -/
theorem In.frame (i : In G X W env σ cs s) {env' : Env} {C : Addr} {σ' : List (Str × VD)} {s' : Shared} {m : Str → Option Value} (k : QQ G s s') (hC : s.heap.get? C = none) (hn : s'.heap.Ns C m) (hloc : env'.locals = C) (hg : env'.globals = mainGlobals) (hb : env'.builtins = builtinsNs)
    (hk : env'.scope.kind = .function) (hcl : ∀ n c, env'.cells.lookup n = some c → ∃ n', n' = n ∧ env.cells.lookup n' = some c)
    (hσ : ∀ y d, σ'.lookup y = some d → (∃ v, env'.kindOf y = some .local ∧ m y = some v ∧ d.At G (Or2 X W) s.heap v) ∨ (σ.lookup y = some d ∧ env.kindOf y = some .cell ∧ env'.kindOf y = some .free ∧ (y == ("__classdict__" : Str)) = false ∧ ∃ c, env.cells.lookup y = some c ∧ env'.cells.lookup y = some c)) :
    In G X (Wn W C) env' σ' cs s' := by
  have i' := i.quiet k
  have kk := fun b o (n : ¬ Or2 X W b) (e : s.heap.get? b = some o) => i.keeps k b o (.inl n) e
  have kw := fun b o (n : W b) (e : s.heap.get? b = some o) => i.keeps k b o (.inr (.inl n)) e
  have hx : ∀ b o, ¬ Or2 X W b → s.heap.get? b = some o → ¬ Or2 X (Wn W C) b := fun b o n e q => by
    rcases q with q | q | q
    · exact n (.inl q)
    · exact n (.inr q)
    · rw [q, hC] at e; cases e
  obtain ⟨hB, nj, nX⟩ := i.noB hC
  refine ⟨i'.gd, ⟨hk, hg, hb, ⟨m, hloc ▸ hn⟩, fun n c e => ?_, fun n n' c e e' => ?_⟩, fun a f => ?_, i.jk, fun a ha => ?_, fun a ha => ?_, fun y d e => ?_, fun p hp => ?_, i.ap⟩
  · obtain ⟨n', rfl, e'⟩ := hcl n c e
    exact i'.fr.cell n' c e'
  · obtain ⟨_, rfl, e1⟩ := hcl n c e
    obtain ⟨_, rfl, e2⟩ := hcl n' c e'
    exact i.fr.apart _ _ c e1 e2
  · rcases f with f | ⟨n, f⟩
    · exact .inr (f.trans hloc)
    · obtain ⟨_, rfl, e1⟩ := hcl n a f
      exact .inl (i.fx a (.inr ⟨_, e1⟩))
  · rcases ha with ha | ha | ha
    · exact i'.hx a (.inl ha)
    · exact i'.hx a (.inr ha)
    · obtain ⟨o, _, _, e, _⟩ := hn
      exact ⟨o, by rw [ha]; exact e⟩
  · rcases ha with ha | ha
    · exact i.wb a ha
    · rw [ha]; exact ⟨hB, nj⟩
  · rcases hσ y d e with ⟨v, e1, e2, r⟩ | ⟨e1, e2, e3, e4, c, e5, e6⟩
    · exact ⟨v, .inl ⟨e1, m, hloc ▸ hn, e2⟩, r.step kk hx⟩
    · obtain ⟨v, n, r⟩ := i.nm y d e1
      refine ⟨v, .inr ⟨.inr ⟨e3, e4⟩, c, e6, ?_⟩, r.step kk hx⟩
      rcases n with ⟨a, _⟩ | ⟨_, c', l, o, ho, hd⟩
      · rw [e2] at a; cases a
      · rw [e5] at l; cases l
        exact ⟨o, kw _ o (i.fx _ (.inr ⟨y, e5⟩)) ho, hd⟩
  · obtain ⟨w1, f1, r1⟩ := i.ce p hp
    refine ⟨⟨w1.1.imp id .inl, w1.2⟩, fun f => ?_, r1.step kk hx fun o e => i.keeps k _ o (.inr (.inr w1.2)) e⟩
    rcases f with f | ⟨n, f⟩
    · obtain ⟨o, e⟩ := i.hx p.1 w1.1
      rw [show p.1 = C from f.trans hloc, hC] at e; cases e
    · obtain ⟨_, rfl, e1⟩ := hcl n p.1 f
      exact f1 (.inr ⟨_, e1⟩)

/-- what making a function asks of the ground -/
structure GLm (G : Gn) : Prop extends GOk G where
  bm : ∃ bm ob, G.mg "__builtins__" = some (.ref bm) ∧ bm ≠ builtinsNs ∧ G.B.get? bm = some ob ∧ ob.cls = .type "module" ∧ ob.dict = some builtinsNs ∧ ob.data = .plain
  dis : ∀ t t', t ∈ G.tb → t' ∈ G.tb → t.P = t'.P → t = t'

theorem GLm.at (hG : GLm G) {h : Heap} (f : Kp G.B h) {P : Addr} (hP : G.B.get? P = none) : h.BuiltinsAt G.mg P ∧ mainGlobals ≠ P := by
  obtain ⟨bm, ob, b1, b2, b3, b4, b5, b6⟩ := hG.bm
  obtain ⟨og, es, ep, eg, dg, _⟩ := hG.g
  refine ⟨⟨bm, ob, b1, b2, fun q => ?_, fun q => ?_, f.keep _ _ b3, b4, b5, b6⟩, fun q => ?_⟩
  · rw [q, eg] at b3; cases b3; rw [dg] at b6; cases b6
  · rw [q, hP] at b3; cases b3
  · rw [q, hP] at eg; cases eg

/-- a lambda made: its function object, its code -/
theorem lambda_made {E : Value → Shared → Prop} {Q : Value → Shared → Prop} {params : Arguments} {body : Expr} {scope : Scope} {pos : Pos} {clos : List (Str × Addr)} {t : Tb} (hG : GLm G) (i : In G X W env σ cs s) (ht : t ∈ G.tb) (hc : env.code = .ref t.c) (hpos : t.pos = pos) (hq : t.qual = env.qual ++ "<lambda>")
    (hcl : closureFor scope env = pure clos) (hdef : defaultsOf params env = ([], []))
    (h : ∀ f c' oc ctv pm s', QQ G s s' → s.heap.get? f = none → s'.heap.get? f = some (kla_obj "<lambda>" (env.qual ++ "<lambda>") params body scope clos pm c' ctv) → s'.heap.get? c' = some oc → ¬ G.jk c' → (∀ h'' : Heap, h''.get? c' = some oc → h''.CodeRec (.ref c') (env.qual ++ "<lambda>")) → Q (.ref f) s') :
    wpAny (model prog w) A (eval (.Lambda params body scope pos) env) Q E s := by
  have tt := i.gd.tb t ht
  obtain ⟨ps, e, tr, hk⟩ := tt.tab
  obtain ⟨hb, hgP⟩ := hG.at i.gd.fr tt.fresh
  have hgs := hG.g.keeps i.gd.fr.keep
  have jP : G.jk t.P := ⟨t, ht, rfl⟩
  rw [← hpos]
  refine kla_eval hdef ?_
  rcases hk with hk | ⟨c', o, vs, tk, e1, e2, e3, e4, nj⟩
  · refine kla_makeFunction (mg := G.mg) hcl i.fr.gl hgs hc (tt.hd.keeps i.gd.fr.keep) e tr hk hgP hb fun c' ctv h' tk hx hge hlt hrec htb => ?_
    obtain ⟨c2, oc, vs, tq, e2, hoc, hd, hv⟩ := hrec
    cases e2
    have nj : ¬ G.jk c' := fun j => by
      obtain ⟨o, eo⟩ := i.hx c' (.inl (i.jk c' j))
      exact absurd (adl (Heap.lt_size eo)) (Nat.not_lt.mpr hge)
    have ltn : s.heap.objs.size ≤ h'.objs.size := Nat.le_trans hge (Nat.le_of_lt hlt)
    have u : ∀ b o, b ≠ t.P → s.heap.get? b = some o → (h'.push (kla_obj "<lambda>" (env.qual ++ "<lambda>") params body scope clos ((G.mg "__name__").getD .none) c' ctv)).get? b = some o := fun b o nb eb => Heap.get?_push_of_some _ (hx b o nb eb)
    refine h h'.objs.size c' oc ctv ((G.mg "__name__").getD .none) _ ⟨⟨_, tk, rfl⟩, fun b o nb nj eb => u b o (fun z => nj (z ▸ jP)) eb, fun b o eb => ?_, fun g => ⟨⟨fun b o eb => ?_⟩, fun t' ht' => ?_⟩⟩
      (Heap.get?_none_of_le ltn) (Heap.get?_push_size _ rfl) (Heap.get?_push_of_some _ hoc) nj fun h'' e => ⟨c', oc, vs, tq, rfl, e, hd, hv⟩
    · by_cases z : b = t.P
      · rw [z]; exact ⟨_, Heap.get?_push_of_some _ htb⟩
      · exact ⟨o, u b o z eb⟩
    · exact u b o (fun z => by rw [z, tt.fresh] at eb; cases eb) (g.fr.keep b o eb)
    · by_cases z : t' = t
      · subst z
        refine ⟨tt.fresh, tt.hd, _, Heap.get?_push_of_some _ htb, ?_, .inr ⟨c', oc, vs, tq, ?_, Heap.get?_push_of_some _ hoc, hd, by rw [hq]; exact hv, nj⟩⟩
        · rw [Array.toList_append]; exact TriplesOk_snoc _ _ _ _ tr
        · rw [Array.toList_append]; exact codeAmong_snoc _ tr hk
      · obtain ⟨f', hd', ps', e', tr', k'⟩ := g.tb t' ht'
        by_cases z2 : t'.P = t.P
        · exact absurd (hG.dis t' t ht' ht z2) z
        · refine ⟨f', hd', ps', u _ _ z2 e', tr', k'.imp id ?_⟩
          rintro ⟨c2, o2, vs2, tk2, e1, e2, e3, e4, nj2⟩
          exact ⟨c2, o2, vs2, tk2, e1, u _ _ (fun z => nj2 (z ▸ jP)) e2, e3, e4, nj2⟩
  · rw [← hq] at h ⊢
    refine kla_makeFunctionHit (mg := G.mg) hcl i.fr.gl hgs hc (tt.hd.keeps i.gd.fr.keep) e tr e1 hb fun ctv h' tk' hu hsz => ?_
    have u : ∀ b o, s.heap.get? b = some o → (h'.push { cls := .type "function", data := .func (kla_fn "<lambda>" t.qual params body scope clos ((G.mg "__name__").getD .none) (.ref c') ctv) }).get? b = some o := fun b o eb => Heap.get?_push_of_some _ (hu b o eb)
    exact h h'.objs.size c' o ctv _ _ (QS.up u) (Heap.get?_none_of_le hsz) (Heap.get?_push_size _ rfl) (u _ _ e2) nj fun h'' e => ⟨c', o, vs, tk, rfl, e, e3, e4⟩

/-- what a lambda with one argument answers -/
theorem lambda_called {params : Arguments} {body : Expr} {scope : Scope} {clos : List (Str × Addr)} {pm ctv : Value} {qual : Str} {f c' : Addr} {oc : Obj} {α : Type} {xs : List α} {enc key : α → PyData} {x : Str} {σc : List (Str × VD)} {n : Nat}
    (hG : GLm G) (hco : scope.isCoroutine = false) (hgen : scope.isGenerator = false) (hk : scope.kind = .function) (hcell : ∀ y ∈ scope.names, y.2 ≠ .cell) (hx : scope.names.lookup x = some .local)
    (hcode : ∀ h'' : Heap, h''.get? c' = some oc → h''.CodeRec (.ref c') qual)
    (hbind : ∀ v, bindArgs (kla_fn "<lambda>" qual params body scope clos pm (.ref c') ctv) ⟨[v], []⟩ = pure [(x, v)])
    (hcl : ∀ n c, clos.lookup n = some c → ∃ n', n' = n ∧ env.cells.lookup n' = some c)
    (hσ : ∀ y d, σc.lookup y = some d → σ.lookup y = some d ∧ env.kindOf y = some .cell ∧ scope.names.lookup y = some .free ∧ (y == ("__classdict__" : Str)) = false ∧ ∃ c, env.cells.lookup y = some c ∧ clos.lookup y = some c)
    (hA : Aok A (n + 1))
    (hbody : ∀ A C X' a, Aok A n → a ∈ xs → Ev prog w A G X' (Wn W C) (envX qual scope C f (.ref c') clos) ((x, .dat (enc a)) :: σc) cs body (.dat (key a))) :
    KeyFn prog w A G X W env σ cs [(f, kla_obj "<lambda>" qual params body scope clos pm c' ctv), (c', oc)] (.ref f) xs enc key := by
  intro a X' s v ha hX i hkp rv
  have ef := hkp _ (.head _)
  have ec := hkp _ (.tail _ (.head _))
  refine wpAny_call (kla_callFunE (by have := hA.dp; lia) ef rfl hco hgen rfl (hcode _ ec) ?_)
  rw [hbind]
  refine wpAny_pure (wpAny_newFunctionEnv hcell (fun y hy => ?_) (fun h₁ hns hsb => ⟨(hG.nolimit.keeps i.gd.fr.keep).fresh _ hsb, ?_⟩) hk)
  · rw [List.mem_singleton.mp hy]; exact hx
  have hC : s.heap.get? s.heap.objs.size = none := Heap.get?_none_of_le (Nat.le_refl _)
  have u : ∀ b o, s.heap.get? b = some o → h₁.get? b = some o := fun b o e => hsb.extBut b o (Nat.ne_of_lt (Heap.lt_size e)) (Heap.get?_push_of_some _ e)
  have k : QQ G s { s with heap := h₁, toks := s.toks + 1 } := QS.up u
  have i1 : In G X' (Wn W s.heap.objs.size) (envX qual scope s.heap.objs.size f (.ref c') clos) ((x, .dat (enc a)) :: σc) cs { s with heap := h₁, toks := s.toks + 1 } := by
    refine i.frame k hC hns rfl rfl rfl hk hcl fun y d e => ?_
    rw [List.lookup_cons] at e
    cases hb : y == x with
    | true =>
      rw [hb] at e; cases e
      rw [beq_iff_eq.mp hb]
      exact .inl ⟨v, hx, by simp, rv⟩
    | false =>
      rw [hb] at e
      obtain ⟨e1, e2, e3, e4, e5⟩ := hσ y d e
      exact .inr ⟨e1, e2, e3, e4, e5⟩
  refine kla_codeExpr (wff ((hbody _ _ X' a (hA.deeper (envX qual scope s.heap.objs.size f (.ref c') clos)) ha).run _ i1) fun v' s' ⟨k', r⟩ => ?_)
  refine ⟨k.trans k', r.weak fun b z => z.imp id .inl⟩

theorem Ev.sortedK {f : Str} {p kpos lpos pos : Pos} {e : Expr} {params : Arguments} {body : Expr} {scope : Scope} {clos : List (Str × Addr)} {t : Tb} {α : Type} {xs : List α} {enc key : α → PyData} {rk : α → Nat} {κ : SortKind} {x : Str} {σc : List (Str × VD)} {n : Nat}
    (hf : Ev prog w A G X W env σ cs (.Name f p) (.is (.builtin "sorted"))) (he : Ev prog w A G X W env σ cs e (.dat (.list (xs.map enc)))) (hG : GLm G) (ht : t ∈ G.tb) (hc : env.code = .ref t.c) (hpos : t.pos = lpos) (hq : t.qual = env.qual ++ "<lambda>")
    (hcl : closureFor scope env = pure clos) (hdef : defaultsOf params env = ([], [])) (hco : scope.isCoroutine = false) (hgen : scope.isGenerator = false) (hk : scope.kind = .function) (hcell : ∀ y ∈ scope.names, y.2 ≠ .cell) (hx : scope.names.lookup x = some .local)
    (hbind : ∀ pm cdv ctv v, bindArgs (kla_fn "<lambda>" (env.qual ++ "<lambda>") params body scope clos pm cdv ctv) ⟨[v], []⟩ = pure [(x, v)])
    (hcl2 : ∀ n c, clos.lookup n = some c → ∃ n', n' = n ∧ env.cells.lookup n' = some c)
    (hσ : ∀ y d, σc.lookup y = some d → σ.lookup y = some d ∧ env.kindOf y = some .cell ∧ scope.names.lookup y = some .free ∧ (y == ("__classdict__" : Str)) = false ∧ ∃ c, env.cells.lookup y = some c ∧ clos.lookup y = some c)
    (hA : Aok A (n + 4))
    (hbody : ∀ A C X' g c a, Aok A n → a ∈ xs → Ev prog w A G X' (Wn W C) (envX (env.qual ++ "<lambda>") scope C g c clos) ((x, .dat (enc a)) :: σc) cs body (.dat (key a)))
    (hsh : KeySh (xs.map key) κ) (h64 : xs.length < 64) (hn : (xs.map rk).Nodup) (hlt : ∀ a b, a ∈ xs → b ∈ xs → rk a ≠ rk b → ltd (key a) (key b) = some (decide (rk a < rk b))) (hd : ∀ a, a ∈ xs → (key a).depth ≤ 16)
    (hs : starEach [e] env = (false, eval e env) :: starEach [] env := by rfl) :
    Ev prog w A G X W env σ cs (.Call (.Name f p) [e] [{ arg := some "key", value := .Lambda params body scope lpos, pos := kpos }] pos) (.dat (.list ((sortBy rk xs).map enc))) := by
  refine ⟨fun s i => ?_⟩
  refine wpAny_Call_Name_kw (wff (hf.run s i) fun fv s₁ ⟨k1, r1⟩ => ?_)
  have r' : fv = .builtin "sorted" := r1
  subst r'
  have i1 := i.quiet k1
  have hl := EvL.cons he EvL.nil hs
  refine callWith_kw (wff (hl.run pos s₁ i1) fun vs s₂ ⟨k2, r2⟩ => ?_) (by rw [hs]; rfl) (by rw [hs]; rfl)
  have i2 := i1.quiet k2
  refine wpAny_evalAll_cons (wpAny_bind (lambda_made hG i2 ht hc hpos hq hcl hdef fun fa c' oc ctv pm s₃ k3 hfa ofa oc' njc hcr => ?_))
  refine wpAny_bind (wpAny_standAt (wpAny_pure (wpAny_evalAll_nil ?_)))
  have i3 := i2.quiet k3
  have r3 := r2.quiet i2.ok k3
  obtain _ | ⟨r3, _ | _⟩ := r3
  obtain ⟨l, its, m, rfl, nx, el, rl⟩ := Rd.list_inv r3
  have hlen : its.toList.length = xs.length := by rw [rl.len, List.length_map]
  have hA1 : Aok A.in1.in1 (n + 1 + 1) := (hA.in1).in1
  refine sorted_go (vs := its.toList) ⟨_, el, rfl, m, rfl⟩ (by lia) (ksk_s1 _ _) (fun _ => ksk_l1 _ _) fun D h' hD up hoD => ?_
  rw [show Builtin.«list.sort» ⟨[.ref D], ((backToKw pos (keywordEach [{ arg := some "key", value := .Lambda params body scope lpos, pos := kpos }] env)).filterMap (·.1)).zip [.ref fa]⟩ = ksk_tree D (.ref fa) false from ksk_t1 fa D]
  have k4 : QQ G s₃ { s₃ with heap := h' } := QS.up (tk := s₃.toks) up
  have i4 := i3.widen k4 hD hoD
  obtain ⟨nB, nj, nX⟩ := i3.noB hD
  have rl' : RdL (Or2 (Xn X D) W) h' its.toList (xs.map enc) := rl.step (fun b o _ e => up b o e) fun b o nb e q => by
    rcases q with (q | q) | q
    · exact nb (.inl q)
    · rw [q, hD] at e; cases e
    · exact nb (.inr q)
  have nfa : ¬ G.jk fa := fun j => by
    obtain ⟨o, e⟩ := i2.hx fa (.inl (i2.jk fa j))
    rw [hfa] at e; cases e
  have hkp : ∀ p, p ∈ [(fa, kla_obj "<lambda>" (env.qual ++ "<lambda>") params body scope clos pm c' ctv), (c', oc)] → h'.get? p.1 = some p.2 ∧ ¬ G.jk p.1 := fun p hp => by
    rcases List.mem_cons.mp hp with rfl | hp
    · exact ⟨up _ _ ofa, nfa⟩
    · rw [List.mem_singleton.mp hp]; exact ⟨up _ _ oc', njc⟩
  have lD : Loose G (Xn X D) W cs [(fa, kla_obj "<lambda>" (env.qual ++ "<lambda>") params body scope clos pm c' ctv), (c', oc)] D := by
    refine ⟨.inr rfl, fun z => nX (.inr z), nj, nB, i3.ceNe nX, fun p hp e => ?_⟩
    rcases List.mem_cons.mp hp with rfl | hp
    · have e' : fa = D := e
      rw [← e', ofa] at hD; cases hD
    · rw [List.mem_singleton.mp hp] at e
      have e' : c' = D := e
      rw [← e', oc'] at hD; cases hD
  refine sort_keyed (s := { s₃ with heap := h' }) (X := Xn X D) (kp := [(fa, kla_obj "<lambda>" (env.qual ++ "<lambda>") params body scope clos pm c' ctv), (c', oc)]) i4 lD hoD rl' hkp
    (lambda_called hG hco hgen hk hcell hx hcr (fun v => hbind pm _ ctv v) hcl2 hσ (hA1.le (Nat.le_succ _)) (fun A C X' a hA' ha => hbody A C X' fa _ a hA' ha)) hsh h64 hn hlt (fun a ha => ?_) fun kS p c s' hkS hp hs hc q upx => ⟨rfl, ?_⟩
  · have := hA1.un
    have := hd a ha
    lia
  · have q4 : QQ G s₃ s' := k4.chain (W' := Two D kS) (fun b hb => by
      rcases hb with hb | hb
      · exact .inr (by rw [hb]; exact hD)
      · exact .inr (by
          cases e : s₃.heap.get? b with
          | none => rfl
          | some o => have := up b o e; rw [hb] at this; rw [hkS] at this; cases this)) q
    refine ⟨((k1.trans k2).trans k3).trans q4, .list (n := c) nX hc ?_⟩
    rw [List.toList_toArray]
    exact (out_good rl' hn hp hs).step (fun b o nb e => upx b o nb e) fun b o nb e q => nb (q.imp .inl id)
end
end Mine
set_option maxRecDepth 100000
set_option maxHeartbeats 2000000
namespace Mine
open PySem PySem.W PyProof.Rows PySem.Calls PySem.SeqAt

/-! min of data -/
section
variable {prog : Program} {w : World} {A : Around} {R : Result → Shared → Prop} {I S : Addr} {n : Nat} {fp : List Addr} {P : Nat → Value → Prop} {St : Nat → Heap → Prop} {Inv : Heap → Prop}
/-- answers in a good heap -/
noncomputable def CmpIn (prog : Program) (w : World) (A : Around) (op : CmpOp) (P : Nat → Value → Prop) (Inv : Heap → Prop) (bt : Nat → Nat → Bool) : Prop :=
  ∀ i j vi vj (s : Shared) (Q E : Value → Shared → Prop), P i vi → P j vj → Inv s.heap → Q (.bool (bt i j)) s → wpAny (model prog w) A (richCompare op vi vj) Q E s
theorem min_turns (W : Walks prog w A.in1 I fp [I] n P St) {bt : Nat → Nat → Bool} (hcmp : CmpIn prog w A.in1 .Lt P Inv bt) (hI : ∀ h h', Inv h → (∀ b o, b ≠ I → b ≠ S → h.get? b = some o → h'.get? b = some o) → Inv h') (hSf : S ∉ fp) :
    ∀ (k j : Nat) (s : Shared) (vb : Value) (c : Nat), n - (j + 1) = k → j + 1 ≤ n → St (j + 1) s.heap → Inv s.heap → P (argBest bt j) vb → s.heap.get? S = some (seqObj "list" #[vb, vb] c) →
    (∀ v h' tk, P (argBest bt (n - 1)) v → (∀ b o, b ≠ I → b ≠ S → s.heap.get? b = some o → h'.get? b = some o) → R (.ok (.ret v)) { s with heap := h', toks := tk }) →
    codeAny (model prog w) A (.builtin "min.loop" ⟨[.ref I, .none, .ref S], []⟩) R s := by
  have hSI : S ≠ I := fun h => hSf (h ▸ W.sub _ (.head _))
  have hname : (toString "min" ++ toString ".loop" : String) = "min.loop" := by decide
  intro k
  induction k with
  | zero =>
    intro j s vb c hk hj hst hin hPb hS hR
    have hn : j + 1 = n := by lia
    refine codeAny_builtin F.entry_min_loop ?_
    rw [Around.under_plainId F.plain_min_loop _]
    show wpAny _ A.in1 (seqItems? (.ref S) >>= _) _ _ s
    refine wpAny_bind (wpAny_seqItems hS rfl ?_)
    show wpAny _ A.in1 (tryCatch (pyNext (.ref I)) _ >>= _) _ _ s
    refine wpAny_bind (wpAny_tryCatch (W.done s _ _ (hn ▸ hst) fun h' tk hk' => ?_))
    have hS' := hk' S _ (by simpa using hSI) hS
    show wpAny _ A.in1 (updateSeq S (fun _ => #[]) >>= _) _ _ _
    refine wpAny_bind ?_
    refine wpAny_updateSeq hS' rfl (wpAny_bind (wpAny_letGo (wpAny_pure ?_)))
    exact hR vb _ tk (by rw [← hn]; exact hPb) fun b o hbI hbS e => (Heap.get?_update_other _ _ (Ne.symm hbS)).trans (hk' b o (by simpa using hbI) e)
  | succ k ih =>
    intro j s vb c hk hj hst hin hPb hS hR
    have hlt : j + 1 < n := by lia
    refine codeAny_builtin F.entry_min_loop ?_
    rw [Around.under_plainId F.plain_min_loop _]
    show wpAny _ A.in1 (seqItems? (.ref S) >>= _) _ _ s
    refine wpAny_bind (wpAny_seqItems hS rfl ?_)
    show wpAny _ A.in1 (tryCatch (pyNext (.ref I)) _ >>= _) _ _ s
    refine wpAny_bind (wpAny_tryCatch (W.item (j + 1) s _ _ hlt hst fun v h' tk hP hst' hk' => ?_))
    have hS' := hk' S _ (by simpa using hSI) hS
    have hin' : Inv h' := hI _ _ hin fun b o h1 _ e => hk' b o (by simpa using h1) e
    show wpAny _ A.in1 (tryCatch (holding [v, v] (richCompare .Lt v vb >>= _)) _ >>= _) _ _ _
    refine wpAny_bind (wpAny_tryCatch (wpAny_holding (wpAny_bind (hcmp (j + 1) (argBest bt j) v vb _ _ _ hP hPb hin' ?_))))
    refine wpAny_bind (wpAny_holding (wpAny_truthy_bool ?_))
    refine wpAny_bind (wpAny_letGo (wpAny_pure ?_))
    cases hb : bt (j + 1) (argBest bt j) with
    | true =>
      simp only [if_true]
      refine wpAny_bind ?_
      refine wpAny_updateSeq hS' rfl (wpAny_bind (wpAny_letGo ?_))
      rw [hname]
      refine wpAny_pure ⟨plainId_quiet F.plain_min_loop _, ih (j + 1) _ v _ (by lia) hlt (W.frame _ _ _ hst' fun b hbf o e => ?_) (hI _ _ hin' fun b o _ hbS e => (Heap.get?_update_other _ _ (Ne.symm hbS)).trans e) (by simp only [argBest, hb, if_true]; exact hP) (Heap.get?_update_self _ hS' rfl)
        fun v' h'' tk'' hP' hk'' => ?_⟩
      · exact (Heap.get?_update_other _ _ (fun h : S = b => hSf (by rw [h]; exact hbf))).trans e
      · exact hR v' h'' tk'' hP' fun b o hbI hbS e => hk'' b o hbI hbS ((Heap.get?_update_other _ _ (Ne.symm hbS)).trans (hk' b o (by simpa using hbI) e))
    | false =>
      simp only [Bool.false_eq_true, if_false]
      refine wpAny_bind (wpAny_letGo ?_)
      rw [hname]
      refine wpAny_pure ⟨plainId_quiet F.plain_min_loop _, ih (j + 1) _ vb c (by lia) hlt hst' hin' (by simp only [argBest, hb, Bool.false_eq_true, if_false]; exact hPb) hS' fun v' h'' tk'' hP' hk'' => ?_⟩
      exact hR v' h'' tk'' hP' fun b o hbI hbS e => hk'' b o hbI hbS (hk' b o (by simpa using hbI) e)
end

section
variable {prog : Program} {w : World} {A : Around} {X : Addr → Prop} {s : Shared} {E : Value → Shared → Prop}
theorem min_data {l : Addr} {its : Array Value} {n : Nat} {ds : List PyData} {bt : Nat → Nat → Bool} {Q : Value → Shared → Prop} (hh : A.handled = none) (e : s.heap.get? l = some { cls := .type "list", data := .seq its n }) (r : RdL X s.heap its.toList ds) (h0 : 0 < ds.length)
    (hbt : ∀ i j x y, ds[i]? = some x → ds[j]? = some y → ltd x y = some (bt i j)) (hu : ∀ d, d ∈ ds → A.units + 2 + d.depth < cLine)
    (h : ∀ v h' tk, its[argBest bt (ds.length - 1)]? = some v → (∀ b o, s.heap.get? b = some o → h'.get? b = some o) → Q v { s with heap := h', toks := tk }) :
    wpAny (model prog w) A (call (.builtin "min") [.ref l]) Q E s := by
  have hname : (toString "min" ++ toString ".loop" : String) = "min.loop" := by decide
  have hz := Rd.size r
  have hL : s.heap.IsList l its := ⟨_, e, rfl, n, rfl⟩
  have hll : l < s.heap.objs.size := Heap.lt_size e
  refine call_function_tree F.kind_min F.plain_min F.entry_min (F.args_min1 _) ?_
  show wpAny _ A.in1 (Builtin.Builtins.bindParams "min" ["key", "default"] 0 ⟨[], []⟩ >>= _) _ _ s
  refine wpAny_bind (wpAny_of_eq (show Builtin.Builtins.bindParams "min" ["key", "default"] 0 ⟨[], []⟩ = pure [none, none] from rfl) ?_)
  refine wpAny_bind (wpAny_pure ?_)
  refine wpAny_bind (wpAny_pyIter_list hL ?_)
  generalize hIa : s.heap.objs.size = Ia at *
  generalize hH : s.heap.push { cls := .type "list_iterator", data := .fields #[.ref l, .int 0 0] } = H
  have up1 : ∀ b o, s.heap.get? b = some o → H.get? b = some o := fun b o e => by rw [← hH]; exact Heap.get?_push_of_some _ e
  have hsz : H.objs.size = Ia + 1 := by rw [← hH, Heap.size_push, hIa]
  have oI : H.get? Ia = some { cls := .type "list_iterator", data := .fields #[.ref l, .int 0 0] } := by rw [← hH, ← hIa]; exact Heap.get?_push_size _ rfl
  have hlI : l ≠ Ia := Nat.ne_of_lt hll
  have W := Walks.list (prog := prog) (w := w) (A := A.in1) hh Ia l hlI its
  refine wpAny_bind (wpAny_newObj_type ?_)
  rw [hname]
  have oS : (H.push (seqObj "list" #[] 0)).get? (Ia + 1) = some (seqObj "list" #[] 0) := by rw [← hsz]; exact Heap.get?_push_size _ rfl
  have up2 : ∀ b o, s.heap.get? b = some o → (H.push (seqObj "list" #[] 0)).get? b = some o := fun b o e => Heap.get?_push_of_some _ (up1 b o e)
  have st0 : (H.push (seqObj "list" #[] 0)).IsListIter Ia l 0 ∧ (H.push (seqObj "list" #[] 0)).IsList l its := ⟨⟨_, Heap.get?_push_of_some _ oI, rfl, rfl⟩, ⟨_, up2 _ _ e, rfl, n, rfl⟩⟩
  have hSf : (Ia + 1) ∉ [Ia, l] := fun hm => by
    rcases List.mem_cons.mp hm with hm | hm
    · have : Ia + 1 = Ia := hm
      lia
    · have e' := adr (List.mem_singleton.mp hm)
      have := adl hll
      lia
  let Inv : Heap → Prop := fun h => RdL (fun b => X b ∨ b = Ia ∨ b = Ia + 1) h its.toList ds
  have hI : ∀ h h', Inv h → (∀ b o, b ≠ Ia → b ≠ Ia + 1 → h.get? b = some o → h'.get? b = some o) → Inv h' := fun h h' i k => RdL.up i fun b o nb e => k b o (fun z => nb (.inr (.inl z))) (fun z => nb (.inr (.inr z))) e
  have inv0 : Inv (H.push (seqObj "list" #[] 0)) := r.step (fun b o _ e => up2 b o e) fun b o nb e q => by
    have lt := adl (Heap.lt_size e)
    rcases q with q | q | q
    · exact nb q
    · have := adr q; lia
    · have := adr q; lia
  have hcmp : CmpIn prog w A.in1 .Lt (fun i v => its[i]? = some v) Inv bt := fun i j vi vj s' Q E hi hj hin hQ => by
    obtain ⟨x, hx, rx⟩ := RdL.getL hin (show its.toList[i]? = some vi by simpa using hi)
    obtain ⟨y, hy, ry⟩ := RdL.getL hin (show its.toList[j]? = some vj by simpa using hj)
    have hd := hu x (List.mem_of_getElem? hx)
    exact ltAt_rd _ x y A.in1 s' vi vj _ (Nat.le_refl _) rx ry (hbt i j x y hx hy) (by show A.units + 1 + _ < _; lia) prog w E Q hQ
  have hSI : (Ia + 1 : Nat) ≠ Ia := by lia
  rw [← hsz] at oS hSf
  rw [hsz] at oS hSf
  show wpAny _ _ _ _ _ { s with heap := H.push (seqObj "list" #[] 0) }
  rw [hsz]
  refine wpAny_pure ⟨plainId_quiet F.plain_min_loop _, codeAny_builtin F.entry_min_loop ?_⟩
  rw [Around.under_plainId F.plain_min_loop _]
  show wpAny _ _ (seqItems? (.ref (Ia + 1)) >>= _) _ _ _
  refine wpAny_bind (wpAny_seqItems oS rfl ?_)
  show wpAny _ _ (tryCatch (pyNext (.ref Ia)) _ >>= _) _ _ _
  refine wpAny_bind (wpAny_tryCatch (W.item 0 _ _ _ (by lia) st0 fun v h' tk hP hst' hk' => ?_))
  have hS' := hk' (Ia + 1) _ (by simpa using adn hSI) oS
  show wpAny _ _ (updateSeq (Ia + 1) (fun _ => #[v, v]) >>= _) _ _ _
  refine wpAny_bind ?_
  refine wpAny_updateSeq hS' rfl ?_
  rw [hname]
  have k1 : ∀ b o, b ≠ Ia → b ≠ Ia + 1 → (H.push (seqObj "list" #[] 0)).get? b = some o → (h'.update (Ia + 1) (Obj.mapSeq fun _ => #[v, v])).get? b = some o := fun b o h1 h2 e => (Heap.get?_update_other _ _ (Ne.symm h2)).trans (hk' b o (by simpa using h1) e)
  refine wpAny_pure ⟨plainId_quiet F.plain_min_loop _, min_turns (bt := bt) W hcmp hI hSf _ 0 _ v _ rfl (by lia) (W.frame _ _ _ hst' fun b hbf o e => ?_) (hI _ _ inv0 k1) hP (Heap.get?_update_self _ hS' rfl) fun v' h'' tk'' hP' hk'' => ?_⟩
  · exact (Heap.get?_update_other _ _ (fun h : Ia + 1 = b => hSf (by rw [h]; exact hbf))).trans e
  · refine h v' h'' tk'' (by rw [← hz]; exact hP') fun b o e => ?_
    have lt := adl (Heap.lt_size e)
    have h1 : b ≠ Ia := fun z => by have := adr z; lia
    have h2 : b ≠ Ia + 1 := fun z => by have := adr z; lia
    exact hk'' b o h1 h2 (k1 b o h1 h2 (up2 b o e))
end
end Mine
set_option maxRecDepth 100000
set_option maxHeartbeats 2000000
namespace Mine
open PySem PySem.W PyProof.Rows PySem.Calls PySem.SeqAt
open AutoSeq1 (wpAny_loadPart')
open MeetsSeq MeetsSeq2 MeetsSeq3

theorem remove_loopAt (l : Addr) (items : Array Value) (n : Nat) (x : Value) (e : Nat → Bool) (j : Nat) (hj : j < items.size) (hit : e j = true) (k : Nat) (hs1 : items.size ≤ sizeLine) :
    ∀ i : Nat, j - i = k → i ≤ j → (∀ m, i ≤ m → m < j → e m = false) → Meets (Builtin.«list.remove.loop» ⟨[.ref l, x, rawInt i], []⟩)
      (fun A R s => s.heap.get? l = some { cls := .type "list", dict := none, data := .seq items n, slots := #[] } ∧ (∀ m (h : m < items.size), EqAt A.in1 s items[m] x (e m)) ∧ R (.ok (.ret .none)) { s with heap := s.heap.update l (Obj.mapSeq fun xs => xs.eraseIdxIfInBounds j) }) := by
  induction k with
  | zero =>
    intro i hk hij hno prog w A R s h
    obtain ⟨hp, g, d, tk, os⟩ := s; obtain ⟨hl, he, h⟩ := h
    have hij' : i = j := by lia
    subst hij'
    wp_walk using wpAny_loadPart' hl
    have hi : items[((i : Nat) : Int).toNat]? = some items[i] := by simp [hj]
    rw [hi]
    refine wpAny_bind (he i hj prog w _ _ ?_)
    rw [hit]
    have hz' : (items.eraseIdxIfInBounds i).size ≤ sizeLine + 1 := Nat.le_trans (size_erased items _) (Nat.le_succ_of_le hs1)
    wp_walk using (wpAny_updateSeq hl rfl (hz := hs1) (_hz' := hz')), wpAny_loadPart' hl
    simpa using h
  | succ k ih =>
    intro i hk hij hno prog w A R s h
    obtain ⟨hp, g, d, tk, os⟩ := s; obtain ⟨hl, he, h⟩ := h
    have hlt : i < items.size := by lia
    wp_walk using wpAny_loadPart' hl
    have hi : items[((i : Nat) : Int).toNat]? = some items[i] := by simp [hlt]
    have hc : ((i : Int) + 1) = ((i + 1 : Nat) : Int) := by push_cast; rfl
    rw [hi]
    refine wpAny_bind (he i hlt prog w _ _ ?_)
    rw [hno i (Nat.le_refl _) (by lia)]
    wp_walk
    rw [hc]
    exact ⟨plainId_quiet plain_remove_loop _, codeAny_builtin entry_remove_loop (by
      rw [Around.under_plainId plain_remove_loop _]
      exact ih (i + 1) (by lia) (by lia) (fun m h1 h2 => hno m (by lia) h2) prog w A R _ ⟨hl, he, h⟩)⟩
theorem list_removeAt (l : Addr) (items : Array Value) (n : Nat) (x : Value) (e : Nat → Bool) (j : Nat) (hj : j < items.size) (hit : e j = true) (hno : ∀ m, m < j → e m = false) (hs1 : items.size ≤ sizeLine) :
    Meets (Builtin.«list.remove» ⟨[.ref l, x], []⟩)
      (fun A R s => s.heap.get? l = some { cls := .type "list", dict := none, data := .seq items n, slots := #[] } ∧ (∀ m (h : m < items.size), EqAt A.in1 s items[m] x (e m)) ∧ R (.ok (.ret .none)) { s with heap := s.heap.update l (Obj.mapSeq fun xs => xs.eraseIdxIfInBounds j) }) := by
  intro prog w A R s h
  obtain ⟨hp, g, d, tk, os⟩ := s; obtain ⟨hl, he, h⟩ := h
  wp_walk using wpAny_loadPart' hl
  exact ⟨plainId_quiet plain_remove_loop _, codeAny_builtin entry_remove_loop (by
    rw [Around.under_plainId plain_remove_loop _]
    exact remove_loopAt l items n x e j hj hit _ hs1 0 rfl (Nat.zero_le _) (fun m _ h2 => hno m h2) prog w A R _ ⟨hl, he, h⟩)⟩

theorem RdL.eraseP {X : Addr → Prop} {h : Heap} (p : PyData → Bool) : ∀ {vs : List Value} {ds : List PyData}, RdL X h vs ds → ds.any p = true → ∃ j, (∃ d, ds[j]? = some d ∧ p d = true) ∧ (∀ m d, m < j → ds[m]? = some d → p d = false) ∧ RdL X h (vs.eraseIdx j) (ds.eraseP p)
  | _, _, .nil, h => by simp at h
  | _, _, .cons (v := v) (d := d) (vs := vs) (ds := ds) r rs, h => by
    cases hp : p d with
    | true => exact ⟨0, ⟨d, rfl, hp⟩, by lia, by rw [List.eraseP_cons_of_pos hp]; exact rs⟩
    | false =>
      rw [List.any_cons, hp, Bool.false_or] at h
      obtain ⟨j, ⟨d', h1, h2⟩, h3, h4⟩ := RdL.eraseP p rs h
      refine ⟨j + 1, ⟨d', by simpa using h1, h2⟩, fun m d'' hm e => ?_, by rw [List.eraseP_cons_of_neg (by simp [hp])]; exact .cons r h4⟩
      cases m with
      | zero => simp at e; subst e; exact hp
      | succ m => exact h3 m d'' (by lia) (by simpa using e)

section
variable {prog : Program} {w : World} {A : Around} {G : Gn} {X W : Addr → Prop} {env : Env} {σ : List (Str × VD)} {cs cs' : List (Addr × Cell)} {s : Shared}
/-- x.remove(e) -/
theorem St1.remove {x : Str} {px apos cpos pos : Pos} {e : Expr} {a : Addr} {ds : List PyData} {d : PyData} (hl : σ.lookup x = some (.is (.ref a))) (he : Ev prog w A G X W env σ cs e (.dat d)) (u : CU a (.lst ds) (.lst (ds.eraseP fun y => PyData.eqv y d)) cs cs') (wa : W a) (hsz : ds.length ≤ sizeLine)
    (hany : (ds.any fun y => PyData.eqv y d) = true) (hu : A.units + 1 + d.depth < cLine) (hd : (x == ("__debug__" : Str)) = false := by decide)
    (hbase : attributeBase (.Name x px) "remove" env (eval (.Name x px) env) = eval (.Name x px) env := by rfl) (hs : starEach [e] env = [(false, eval e env)] := by rfl) (hline : (apos.endLine == cpos.line) = true := by rfl)
    (hi : interactive env = false := by rfl) (hsw : swapsWith (.Call (.Attribute (.Name x px) "remove" apos) [e] [] cpos) none pos.line env = pure false := by rfl) :
    St1 prog w A G X W env σ cs (.Expr (.Call (.Attribute (.Name x px) "remove" apos) [e] [] cpos) pos) σ cs' := by
  refine ⟨fun s i => ?_⟩
  refine wpAny_Expr (hi := hi) (hs := hsw) (Call_method1 hbase hs hline (wff ((Ev.name (pos := px) hl hd).run s i) fun v s₁ ⟨k, r⟩ => ?_))
  have r' : v = .ref a := r
  subst r'
  have i1 := i.quiet k
  obtain ⟨vs, n, e1, r1⟩ := i1.cell u.mem
  refine ⟨"list", _, F.plainAttrs_list, F.slot_list_remove, F.type_list_remove, ⟨_, e1, rfl⟩, fun b hb => by cases hb; exact ⟨_, e1, rfl⟩, ?_⟩
  refine seqMethod1_meets F.slot_list_remove F.entry_list_remove (wff (he.run s₁ i1) fun y s₂ ⟨k2, r2⟩ => ?_)
  have i2 := i1.quiet k2
  obtain ⟨vs, n, e2, p2⟩ := i2.cell u.mem
  obtain ⟨j, ⟨dj, hj1, hj2⟩, hno, pe⟩ := RdL.eraseP (fun y => PyData.eqv y d) p2 hany
  have hzz := Rd.size p2
  have hj : j < vs.size := by
    have := (List.getElem?_eq_some_iff.mp hj1).1
    lia
  obtain ⟨cy, ay, ry⟩ := Rd.reads r2
  refine ⟨⟨_, e2, rfl⟩, F.args_list_remove_2 _ _, _, list_removeAt a vs n y (fun m => (ds[m]?).elim false fun z => PyData.eqv z d) j hj (by simp only [hj1, Option.elim_some]; exact hj2) (fun m hm => ?_) (by lia), e2, fun m hm => ?_, ?_⟩
  · cases hz : ds[m]? with
    | none => rfl
    | some z => exact hno m z hm hz
  · obtain ⟨z, hz, rz⟩ := p2.getL (show vs.toList[m]? = some vs[m] by simp [hm])
    obtain ⟨cz, az, qz⟩ := Rd.reads rz
    rw [hz]
    exact eqAt_reads _ _ A.in1 s₂ _ _ _ _ qz ry cz cy (by show A.units + 1 + _ < _; lia)
  have hs := (Heap.SameBut.update s₂.heap a (Obj.mapSeq fun xs => xs.eraseIdxIfInBounds j)).extBut
  have kx : ∀ b o, ¬ Or2 X W b → s₂.heap.get? b = some o → (s₂.heap.update a (Obj.mapSeq fun xs => xs.eraseIdxIfInBounds j)).get? b = some o := fun b o nb e => hs b o (fun z => nb (.inr (by rw [z]; exact wa))) e
  have et : (vs.eraseIdxIfInBounds j).toList = vs.toList.eraseIdx j := by
    unfold Array.eraseIdxIfInBounds
    rw [dif_pos hj]; simp
  obtain ⟨i3, k3⟩ := i2.setCell (tk := s₂.toks) u wa (h := s₂.heap.update a (Obj.mapSeq fun xs => xs.eraseIdxIfInBounds j)) hs ⟨vs.eraseIdxIfInBounds j, _, get?_update_seq e2 _, by rw [et]; exact pe.up kx⟩
  exact ⟨rfl, i3, (QQ.to (k.trans k2)).trans k3⟩

/-- min of a list of one's own -/
theorem minCell {a : Addr} {ds : List PyData} {bt : Nat → Nat → Bool} {d : PyData} (hh : A.handled = none) (hm : (a, Cell.lst ds) ∈ cs) (h0 : 0 < ds.length) (hbt : ∀ i j x y, ds[i]? = some x → ds[j]? = some y → ltd x y = some (bt i j)) (hu : ∀ d, d ∈ ds → A.units + 2 + d.depth < cLine)
    (hd : ds[argBest bt (ds.length - 1)]? = some d) : FnI prog w A G X W env σ cs (.builtin "min") [.is (.ref a)] (.dat d) := by
  intro s vs i r
  obtain _ | ⟨r, _ | _⟩ := r
  have r' : _ = Value.ref a := r
  subst r'
  obtain ⟨its, n, e, p⟩ := i.cell hm
  refine min_data hh e p h0 hbt hu fun v h' tk hv up => ⟨QS.up up, ?_⟩
  obtain ⟨d', hd', rd⟩ := p.getL (show its.toList[argBest bt (ds.length - 1)]? = some v by simpa using hv)
  rw [hd] at hd'; cases hd'
  exact Rd.up rd fun b o _ e => up b o e

/-- a list of one's own compared -/
theorem eqCell {x : Str} {px pos : Pos} {e : Expr} {a : Addr} {ds : List PyData} {d : PyData} (hl : σ.lookup x = some (.is (.ref a))) (hm : (a, Cell.lst ds) ∈ cs) (he : Ev prog w A G X W env σ cs e (.dat d)) (hu : A.units + d.depth < cLine) (hd : (x == ("__debug__" : Str)) = false := by decide) (hb : behindInMarks .Eq e = false := by with_unfolding_all rfl) :
    Tr prog w A G X W env σ cs (.Compare (.Name x px) [.Eq] [e] pos) (PyData.eqv (.list ds) d) := by
  refine ⟨fun s i => ?_⟩
  refine wpAny_isTrue_Compare1 ?_ hb
  refine wff ((Ev.name (pos := px) hl hd).run s i) fun v s₁ ⟨k1, r1⟩ => wff (he.run s₁ (i.quiet k1)) fun u s₂ ⟨k2, r2⟩ => ?_
  have r' : v = .ref a := r1
  subst r'
  obtain ⟨its, n, e2, p⟩ := ((i.quiet k1).quiet k2).cell hm
  obtain ⟨c, as, rr⟩ := RdL.reads p
  obtain ⟨c', as', rr'⟩ := Rd.reads r2
  have rl : Reads s₂.heap (.ref a) (.list ds) _ := .list e2 rfl rfl rr
  exact SeqAt.compareEq_reads rl rr' c c' (by lia) (wpAny_truthy_bool ⟨k1.trans k2, rfl⟩)
/-- an item of a list of one's own -/
theorem Ev.subCell {x : Str} {px pos : Pos} {slice : Expr} {a : Addr} {ds : List PyData} {k : Int} {d : PyData} (hl : σ.lookup x = some (.is (.ref a))) (hm : (a, Cell.lst ds) ∈ cs) (h2 : Ev prog w A G X W env σ cs slice (I k)) (h0 : 0 ≤ k) (hf : k < 2 ^ 63) (hd : ds[k.toNat]? = some d)
    (hs : ∀ o i, subscripted slice false o i = operate [o, i] (getItem o i) := by intro _ _; rfl) (hdb : (x == ("__debug__" : Str)) = false := by decide) : Ev prog w A G X W env σ cs (.Subscript (.Name x px) slice pos) (.dat d) := by
  refine ⟨fun s i => ?_⟩
  refine Subscript_ (wff ((Ev.name (pos := px) hl hdb).run s i) fun a' s₁ ⟨k1, r1⟩ => wff (h2.run s₁ (i.quiet k1)) fun b s₂ ⟨k2, r2⟩ => ?_)
  have r' : a' = .ref a := r1
  subst r'
  obtain ⟨its, n, e2, p⟩ := ((i.quiet k1).quiet k2).cell hm
  obtain ⟨t, rfl⟩ := Rd.int_inv r2
  obtain ⟨v, hv, rv⟩ := p.get hd
  have hT : s₂.TypeIs (.ref a) "list" := ⟨_, e2, rfl⟩
  unfold subscriptTail
  refine wpAny_bind ?_
  rw [getitemInPython_of_ne hT.not_modules]
  refine wpAny_bind (wpAny_specialOf hT list_getitem_lookup ?_)
  have fin : wpAny (model prog w) A (subscripted slice false (.ref a) (.int k t)) (fun r s₃ => wpAny (model prog w) A (letTemporaryGo (.Name x px) (.ref a) r >>= fun _ => pure r) (fun v s' => QQ G s s' ∧ (VD.dat d).At G (Or2 X W) s'.heap v) FF s₃) FF s₂ := by
    rw [hs]
    exact wpAny_operating (wpAny_getItem_list ⟨_, e2, rfl, _, rfl⟩ h0 hf (by simpa using hv) (wpAny_bind (wpAny_letTemporaryGo (wpAny_pure ⟨k1.trans k2, rv⟩))))
  first
    | exact wpAny_pure (wpAny_bind fin)
    | exact wpAny_bind (wpAny_pure (wpAny_bind fin))
    | exact wpAny_bind fin
/-- a list of one's own is answered -/
theorem Ex.retCell {U : Un} {x : Str} {px pos : Pos} {rest : List Stmt} {a : Addr} {ds : List PyData} {Q : Post} (hl : σ.lookup x = some (.is (.ref a))) (hm : (a, Cell.lst ds) ∈ cs) (ha : ¬ X a) (q : Q (.ret (.dat (.list ds))) W σ cs) (hd : (x == ("__debug__" : Str)) = false := by decide) : ExU U prog w A G X W env σ cs (.Return (some (.Name x px)) pos :: rest) Q := by
  refine ⟨fun s i => ?_⟩
  refine wpAny.k (wpAny_execs_cons (wpAny_Return_some (wff ((Ev.name (pos := px) hl hd).run s i) fun v s' ⟨k, r⟩ => ⟨.ret (.dat (.list ds)), W, σ, cs, q, i.quiet k, k.to, fun _ h => .inl h, ?_⟩)))
  have r' : v = .ref a := r
  subst r'
  obtain ⟨its, n, e2, p⟩ := (i.quiet k).cell hm
  exact Rd.list ha e2 (p.step (fun _ _ _ e => e) fun b _ n _ z => n (.inl z))
/-- len, max -/
theorem lenB {ds : List PyData} (h : ds.length ≤ sizeLine) : FnB prog w A G X "len" [.dat (.list ds)] (I ds.length) := by
  intro s vs i r
  obtain _ | ⟨r, _ | _⟩ := r
  obtain ⟨l, its, n, rfl, nx, e, rl⟩ := Rd.list_inv r
  have hz := Rd.size rl
  rw [sizeLine_eq] at h
  refine call_len_list ⟨_, e, rfl, n, rfl⟩ (by lia) ⟨QS.up fun _ _ e => e, ?_⟩
  rw [hz]; exact .int _ _
end
end Mine
set_option maxRecDepth 100000
set_option maxHeartbeats 2000000
namespace Mine
open PySem PySem.W PyProof.Rows PySem.Calls

section
variable {prog : Program} {w : World} {A : Around} {G : Gn} {X W : Addr → Prop} {env : Env} {σ : List (Str × VD)} {cs cs' : List (Addr × Cell)} {s : Shared} {E : Value → Shared → Prop}

/-! slices of any value -/
theorem Subscript_Slice {value : Expr} {lower upper : Option Expr} {p pos : Pos} {T id : String} {Q : Value → Shared → Prop} (hl : typeLookup (.type T) "__getitem__" = pure (some (.builtin id)))
    (h : wpAny (model prog w) A (eval value env) (fun o s₁ => wpAny (model prog w) A (evalPart lower env) (fun l s₂ => wpAny (model prog w) A (evalPart upper env) (fun u s₃ =>
      ({ s₃ with heap := s₃.heap.push { cls := .type "slice", data := .fields #[l, u, .none] } } : Shared).TypeIs o T ∧ wpAny (model prog w) A (getItem o (.ref s₃.heap.objs.size)) Q E { s₃ with heap := s₃.heap.push { cls := .type "slice", data := .fields #[l, u, .none] } }) E s₂) E s₁) E s) :
    wpAny (model prog w) A (eval (.Subscript value (.Slice lower upper none p) pos) env) Q E s := by
  rw [eval_Subscript]
  refine wpAny_bind (wpAny_mono h (fun o s₁ h₁ => wpAny_bind (wpAny_holding (wpAny_Slice (wpAny_mono h₁ (fun l s₂ h₂ => wpAny_mono h₂ (fun u s₃ h₃ => ?_) fun _ _ x => x) fun _ _ x => x)))) fun _ _ x => x)
  rw [evalPart_none]
  refine wpAny_pure (wpAny_bind (wpAny_standAt ?_))
  have fin : wpAny (model prog w) A (operate [.ref s₃.heap.objs.size, o] (getItem o (.ref s₃.heap.objs.size))) (fun r s₃ => wpAny (model prog w) A (letTemporaryGo value o r >>= fun _ => pure r) Q E s₃) E { s₃ with heap := s₃.heap.push { cls := .type "slice", data := .fields #[l, u, .none] } } :=
    wpAny_operating (wpAny_mono h₃.2 (fun r s₃ h₃ => wpAny_bind (wpAny_letTemporaryGo (wpAny_pure h₃))) fun _ _ x => x)
  first
    | (refine wpAny_bind ?_
       rw [getitemInPython_of_ne h₃.1.not_modules]
       refine wpAny_bind (wpAny_specialOf h₃.1 hl ?_)
       first
         | exact wpAny_pure (wpAny_bind fin)
         | exact wpAny_bind (wpAny_pure (wpAny_bind fin))
         | exact wpAny_bind fin)
    | (refine wpAny_bind (wpAny_specialOf h₃.1 hl ?_)
       first
         | exact wpAny_bind (wpAny_pure (wpAny_bind fin))
         | exact wpAny_bind fin)

/-- the list that a slice of a list makes -/
theorem slice_made {l : Addr} {vs : Array Value} {n : Nat} {ds : List PyData} {lo hi : Option Int} {vl vu : Value} {Q : Value → Shared → Prop} (i : Ok G X s) (e : s.heap.get? l = some { cls := .type "list", data := .seq vs n }) (r : RdL X s.heap vs.toList ds) (pl : IsPart vl lo) (pu : IsPart vu hi) (hl : ds.length ≤ sizeLine)
    (h : ∀ a s', QQ G s s' → Rd X s'.heap (.ref a) (.list (pick ds lo hi)) → Q (.ref a) s') :
    ({ s with heap := s.heap.push { cls := .type "slice", data := .fields #[vl, vu, .none] } } : Shared).TypeIs (.ref l) "list" ∧ wpAny (model prog w) A (getItem (.ref l) (.ref s.heap.objs.size)) Q E { s with heap := s.heap.push { cls := .type "slice", data := .fields #[vl, vu, .none] } } := by
  have hL : s.heap.IsList l vs := ⟨_, e, rfl, n, rfl⟩
  refine ⟨(hL.push _).typeIs, wpAny_getItem_list_slice (hL.push _) (Heap.IsSliceOf.new ..) pl pu .none (by simp) ?_ (by rw [Rd.size r]; exact hl)⟩
  have k1 : QQ G s { s with heap := s.heap.push { cls := .type "slice", data := .fields #[vl, vu, .none] } } := QS.push _
  refine h _ _ (k1.trans (QS.push (s := { s with heap := s.heap.push { cls := .type "slice", data := .fields #[vl, vu, .none] } }) _)) ?_
  have up : ∀ c o, ¬ X c → s.heap.get? c = some o → ((s.heap.push { cls := .type "slice", data := .fields #[vl, vu, .none] }).push { cls := .type "list", data := .seq (slicePick vs lo hi none) }).get? c = some o := fun _ _ _ e => Heap.get?_push_of_some _ (Heap.get?_push_of_some _ e)
  refine .list (n := 0) (i.quiet k1).fresh (Heap.get?_push_size _ rfl) ?_
  have e2 : (slicePick vs lo hi none).toList = (vs.toList.drop (lo.elim 0 (clipAt ds.length))).take (hi.elim ds.length (clipAt ds.length) - lo.elim 0 (clipAt ds.length)) := by
    rw [slicePick_plain, Rd.size r]
  rw [e2]
  exact ((r.up up).drop _).take _
theorem Ev.sliceL {value : Expr} {lower upper : Option Expr} {p pos : Pos} {ds : List PyData} {lo hi : Option Int} (h1 : Ev prog w A G X W env σ cs value (.dat (.list ds))) (h2 : EvO prog w A G X W env σ cs lower lo) (h3 : EvO prog w A G X W env σ cs upper hi) (hl : ds.length ≤ sizeLine) :
    Ev prog w A G X W env σ cs (.Subscript value (.Slice lower upper none p) pos) (.dat (.list (pick ds lo hi))) := by
  refine ⟨fun s i => ?_⟩
  refine Subscript_Slice (T := "list") list_getitem_lookup (wff (h1.run s i) fun o s₁ ⟨k1, r1⟩ => wff (h2.run (i.quiet k1)) fun vl s₂ ⟨k2, p2⟩ => wff (h3.run ((i.quiet k1).quiet k2)) fun vu s₃ ⟨k3, p3⟩ => ?_)
  have o1 := (i.quiet k1).ok
  have r3 : VD.At G (Or2 X W) s₃.heap o (.dat (.list ds)) := (r1.quiet o1 k2).quiet (o1.quiet k2) k3
  obtain ⟨l, vs, n, rfl, nx, e, r⟩ := Rd.list_inv r3
  exact slice_made ((o1.quiet k2).quiet k3) e r p2 p3 hl fun a s' k r => ⟨((k1.trans k2).trans k3).trans k, r⟩
/-- x[n:] of a str -/
noncomputable def dropS (x : Str) (n : Nat) : Str := ⟨((Builtin.Str.strSliceIndices (some (n : Int)) none 1 x.length).filterMap (x.cps[·]?)).toArray⟩
theorem Ev.sliceS {value : Expr} {k : Nat} {n : Nat} {p pos pc : Pos} {x y : Str} (h1 : Ev prog w A G X W env σ cs value (S x)) (hy : (if (Builtin.Str.strSliceIndices (some (n : Int)) none 1 x.length).length == x.length then x else dropS x n) = y) (ho : PyData.strOk y = true) (hz : y.length ≤ sizeLine) :
    Ev prog w A G X W env σ cs (.Subscript value (.Slice (some (.Constant (.int n) k pc)) none none p) pos) (S y) := by
  refine ⟨fun s i => ?_⟩
  refine Subscript_Slice (T := "str") F.slot_str_getitem.lookup (wff (h1.run s i) fun o s₁ ⟨k1, r1⟩ => ?_)
  obtain ⟨⟨t, rfl⟩, _⟩ := Rd.str_inv r1
  rw [evalPart_some]
  refine wpAny_Constant_int ?_
  rw [evalPart_none]
  refine wpAny_pure ⟨typeIs_str _ x t, wpAny_getItem_str_slice (l := some ((n : Int), _)) (u := none) (st := none) ⟨_, Heap.get?_push_size _ rfl, rfl, rfl⟩ rfl ?_⟩
  have e0 : ((((none : Option (Int × Tok)).map (·.1)).getD 1 == 1) && (slicePicked x (some ((n : Int), s₁.toks)) none none).length == x.length) = ((Builtin.Str.strSliceIndices (some (n : Int)) none 1 x.length).length == x.length) := by simp [slicePicked]
  unfold sliceMade
  rw [e0]
  by_cases c : ((Builtin.Str.strSliceIndices (some (n : Int)) none 1 x.length).length == x.length) = true
  · rw [if_pos c] at hy ⊢
    subst hy
    exact ⟨k1.trans (QS.up fun _ _ e => Heap.get?_push_of_some _ e), .str _ _ ho⟩
  · rw [if_neg c] at hy ⊢
    subst hy
    exact ⟨hz, k1.trans (QS.up fun _ _ e => Heap.get?_push_of_some _ e), .str _ _ ho⟩

/-! calls of types, methods of strs -/
theorem Ev.callT {f : Str} {p pos : Pos} {e : Expr} {es : List Expr} {T : String} {xs : List VD} {z : VD} (hf : Ev prog w A G X W env σ cs (.Name f p) (.is (.type T))) (h : EvL prog w A G X W env σ cs (e :: es) xs) (hB : FnI prog w A G X W env σ cs (.type T) xs z)
    (he : starEach (e :: es) env = (false, eval e env) :: starEach es env := by rfl) (hplain : (backTo pos (starEach es env)).any (·.1) = false := by rfl) : Ev prog w A G X W env σ cs (.Call (.Name f p) (e :: es) [] pos) z := by
  refine ⟨fun s i => ?_⟩
  refine Call_Name rfl (wff (hf.run s i) fun fv s₁ ⟨k, r⟩ => ?_)
  have r' : fv = .type T := r
  subst r'
  refine PyProof.Rows.callWith_type1 (wff (h.run pos s₁ (i.quiet k)) fun vs s₂ ⟨k2, r2⟩ => ?_) he hplain
  exact wff (hB s₂ vs ((i.quiet k).quiet k2) r2) fun v s₃ ⟨k3, r3⟩ => ⟨(k.trans k2).trans k3, r3⟩
theorem strI {n : Int} (hn : n.natAbs.log2 < 1920) (ho : PyData.strOk (Str.ofString (toString n)) = true) : FnI prog w A G X W env σ cs (.type "str") [I n] (S (Str.ofString (toString n))) := by
  intro s vs i r
  obtain _ | ⟨r, _ | _⟩ := r
  obtain ⟨t, rfl⟩ := Rd.int_inv r
  exact P.str_of_int hn ⟨QS.toks, .str _ _ ho⟩
theorem Ev.strM0 {o : Expr} {name : Str} {apos pos : Pos} {x y : Str} (h : Ev prog w A G X W env σ cs o (S x)) (hm : ∀ s t (Q : Value → Shared → Prop), (∀ t' tk, Q (.str y t') { s with toks := tk }) → MethodOnS prog w A FF name (.str x t) pos [] Q s) (ho : PyData.strOk y = true)
    (hbase : attributeBase o name env (eval o env) = eval o env := by rfl) (hline : (apos.endLine == pos.line) = true := by rfl) : Ev prog w A G X W env σ cs (.Call (.Attribute o name apos) [] [] pos) (S y) := by
  refine ⟨fun s i => ?_⟩
  refine Call_method0 hbase hline (wff (h.run s i) fun v s₁ ⟨k, r⟩ => ?_)
  obtain ⟨⟨t, rfl⟩, _⟩ := Rd.str_inv r
  exact hm s₁ t _ fun t' tk => ⟨k.trans QS.toks, .str _ _ ho⟩
theorem Ev.upper {o : Expr} {apos pos : Pos} {x : Str} (h : Ev prog w A G X W env σ cs o (S x)) (hf : Builtin.Str.tooLong (Txt.upper x).length = false) (ho : PyData.strOk (Txt.upper x) = true) (hbase : attributeBase o "upper" env (eval o env) = eval o env := by rfl) (hline : (apos.endLine == pos.line) = true := by rfl) :
    Ev prog w A G X W env σ cs (.Call (.Attribute o "upper" apos) [] [] pos) (S (Txt.upper x)) := .strM0 h (fun _ _ _ q => SB.upper hf (q _ _)) ho hbase hline
theorem Ev.lower {o : Expr} {apos pos : Pos} {x : Str} (h : Ev prog w A G X W env σ cs o (S x)) (hf : Builtin.Str.tooLong (Txt.lower x).length = false) (ho : PyData.strOk (Txt.lower x) = true) (hbase : attributeBase o "lower" env (eval o env) = eval o env := by rfl) (hline : (apos.endLine == pos.line) = true := by rfl) :
    Ev prog w A G X W env σ cs (.Call (.Attribute o "lower" apos) [] [] pos) (S (Txt.lower x)) := .strM0 h (fun _ _ _ q => SB.lower hf (q _ _)) ho hbase hline

/-! max -/
theorem items_of : ∀ {vs : List Value} {ns : List Int} {h : Heap}, RdL X h vs (ns.map .int) → ∃ xs : List (Int × Tok), vs = xs.map (fun p => .int p.1 p.2) ∧ ns = xs.map (·.1)
  | _, [], _, .nil => ⟨[], rfl, rfl⟩
  | _, n :: ns, _, .cons r p => by
    obtain ⟨xs, rfl, rfl⟩ := items_of p
    obtain ⟨t, rfl⟩ := Rd.int_inv r
    exact ⟨(n, t) :: xs, rfl, rfl⟩
theorem maxL {ns : List Int} {m : Int} (hh : A.handled = none) (hm : m ∈ ns) (hle : ∀ a, a ∈ ns → a ≤ m) : FnB prog w A G X "max" [.dat (.list (ns.map .int))] (I m) := by
  intro s vs i r
  obtain _ | ⟨r, _ | _⟩ := r
  obtain ⟨l, its, n, rfl, nx, e, rl⟩ := Rd.list_inv r
  obtain ⟨xs, e1, rfl⟩ := items_of rl
  have e2 : its = intItems xs.toArray := by
    apply Array.toList_inj.mp
    rw [e1]; simp [intItems]
  subst e2
  have hsz : 0 < xs.toArray.size := by
    cases xs with
    | nil => simp at hm
    | cons _ _ => simp
  refine max_intList hh ⟨_, e, rfl, n, rfl⟩ hsz fun v h' tk hv hk => ⟨QS.up hk, ?_⟩
  obtain ⟨t, rfl⟩ := intItems_at hv
  obtain ⟨h1, h2⟩ := argBest_gt (numAt xs.toArray) (xs.toArray.size - 1)
  have em : numAt xs.toArray (argBest (fun i j => decide (numAt xs.toArray i > numAt xs.toArray j)) (xs.toArray.size - 1)) = m := by
    refine Int.le_antisymm (hle _ ?_) ?_
    · rw [numAt_eq]; exact getD_mem (by simp at h1 hsz ⊢; lia)
    · obtain ⟨j, hj, rfl⟩ := mem_getD hm
      rw [List.length_map] at hj
      have := h2 j (by simp; lia)
      rw [numAt_eq] at this
      simpa using this
  rw [em]; exact .int _ _
theorem max2 {a b : Int} (hh : A.handled = none) : FnB prog w A G X "max" [I a, I b] (I (if b > a then b else a)) := by
  intro s vs i r
  obtain _ | ⟨r, _ | ⟨r2, _ | _⟩⟩ := r
  obtain ⟨t, rfl⟩ := Rd.int_inv r
  obtain ⟨u, rfl⟩ := Rd.int_inv r2
  refine max_two_ints hh fun h' tk hk => ⟨QS.up hk, ?_⟩
  by_cases c : b > a
  · rw [if_pos c, if_pos c]; exact .int _ _
  · rw [if_neg c, if_neg c]; exact .int _ _

/-! dicts of one's own -/
theorem Ex.newTab {U : Un} {x : Str} {px pos lp : Pos} {rest : List Stmt} {Q : Post} (hG : GOk G) (hk : env.kindOf x = some .local ∨ (env.kindOf x = some .cell ∧ (env.cells.lookup x).isSome = true))
    (h2 : ∀ a, ¬ X a → ExU U prog w A G X (Wn W a) env ((x, .is (.ref a)) :: σ) ((a, .tab prog w 0 []) :: cs) rest Q) (hsw : swapsWith (.Dict [] [] lp) (some (.Name x px)) pos.line env = pure false := by rfl) : ExU U prog w A G X W env σ cs (.Assign [.Name x px] (.Dict [] [] lp) pos :: rest) Q := by
  refine Ex.making (fun s i => ?_) h2
  refine wpAny_Assign_Name (hs := hsw) (wpAny_Dict_empty ?_)
  have hf : s.heap.get? s.heap.objs.size = none := Heap.get?_none_of_le (Nat.le_refl _)
  have kp : QQ G s { s with heap := s.heap.push { cls := .type "dict", data := .dict #[] } } := QS.push _
  have hns : (s.heap.objs.size == sysModules) = false := beq_eq_false_iff_ne.mpr (Nat.ne_of_gt (modules_low (hG.nolimit.keeps i.gd.fr.keep)))
  have i2 := i.newCell (c := .tab prog w 0 []) kp hf ⟨hns, [], Heap.DictOf.new s.heap, Nat.le_refl _, fun k d e => by simp at e⟩
  exact wpAny_mono (i2.store (d := .is (.ref s.heap.objs.size)) rfl hk) (fun _ s₂ ⟨i3, k3⟩ => ⟨rfl, _, hf, i3, (QQ.to kp).trans k3⟩) fun _ _ e => e
theorem valueAt_stored {K : Type} [DecidableEq K] (kvs : List (K × Value)) (k : K) (v : Value) (k' : K) : valueAt (stored kvs k v) k' = if k' = k then some v else valueAt kvs k' := by
  unfold stored
  by_cases h : (kvs.any fun kv => decide (kv.1 = k)) = true
  · rw [if_pos h]
    induction kvs with
    | nil => simp at h
    | cons p r ih =>
      obtain ⟨a, b⟩ := p
      rw [List.map_cons]
      by_cases ha : a = k
      · subst ha
        simp only [if_true]
        by_cases hk : k' = a
        · subst hk; simp [valueAt]
        · have ha' : ¬ a = k' := fun e => hk e.symm
          rw [if_neg hk]
          simp only [valueAt, List.find?_cons, decide_eq_false ha']
          by_cases h2 : (r.any fun kv => decide (kv.1 = a)) = true
          · have := ih h2
            rw [if_neg hk] at this
            exact this
          · have e : (r.map fun kv => if kv.1 = a then (kv.1, v) else kv) = r := by
              refine (List.map_congr_left fun q hq => ?_).trans (List.map_id _)
              rw [if_neg fun e => h2 (List.any_eq_true.mpr ⟨q, hq, by simp [e]⟩)]
              rfl
            rw [e]
      · rw [if_neg ha]
        have h2 : (r.any fun kv => decide (kv.1 = k)) = true := by simpa [ha] using h
        have := ih h2
        by_cases hk : a = k'
        · subst hk
          rw [if_neg ha]
          simp [valueAt]
        · simp only [valueAt, List.find?_cons, decide_eq_false hk]
          exact this
  · rw [if_neg h]
    induction kvs with
    | nil =>
      by_cases hk : k' = k
      · subst hk; simp [valueAt]
      · have : ¬ k = k' := fun e => hk e.symm
        simp [valueAt, hk, this]
    | cons p r ih =>
      obtain ⟨a, b⟩ := p
      have ha : ¬ a = k := fun e => h (by simp [e])
      have h2 : ¬ (r.any fun kv => decide (kv.1 = k)) = true := fun e => h (by rw [List.any_cons, e, Bool.or_true])
      have := ih h2
      rw [List.cons_append]
      by_cases hk : a = k'
      · subst hk
        rw [if_neg ha]
        simp [valueAt]
      · simp only [valueAt, List.find?_cons, decide_eq_false hk]
        exact this
theorem St1.setTab {U : Un} {cs1 : List (Addr × Cell)} {x : Str} {px pos spos : Pos} {e ek : Expr} {a : Addr} {n : Nat} {kvs : List (Str × PyData)} {k : Str} {d : PyData} (he : EvM U prog w A G X W env σ cs e cs1 (.dat d)) (hl : σ.lookup x = some (.is (.ref a))) (hk : Ev prog w A G X W env σ cs1 ek (S k)) (wa : W a)
    (u : CU a (.tab prog w n kvs) (.tab prog w (n + 1) ((k, d) :: kvs)) cs1 cs') (hn : n ≤ 4096) (hsw : swapsWith e (some (.Subscript (.Name x px) ek spos)) pos.line env = pure false := by rfl) (hd : (x == ("__debug__" : Str)) = false := by decide) :
    St1U U prog w A G X W env σ cs (.Assign [.Subscript (.Name x px) ek spos] e pos) σ cs' := by
  refine ⟨fun s i => ?_⟩
  refine wpK_Assign_Subscript (kff (he.run s i) fun v s₁ ⟨i1, k1, r1⟩ => wpAny.k (wff ((Ev.name (pos := px) hl hd).run s₁ i1) fun ov s₂ ⟨k2, r2⟩ => wpAny.k (wff (hk.run s₂ (i1.quiet k2)) fun iv s₃ ⟨k3, r3⟩ => wpAny.k ?_))) hsw
  have r2' : ov = .ref a := r2
  subst r2'
  obtain ⟨⟨t, rfl⟩, _⟩ := Rd.str_inv r3
  have i3 := (i1.quiet k2).quiet k3
  have rv : VD.At G (Or2 X W) s₃.heap v (.dat d) := (r1.quiet i1.ok k2).quiet (i1.quiet k2).ok k3
  obtain ⟨hns, vs, hD, hlen, hf⟩ := i3.cell u.mem
  refine wpAny_setItem_pairs (knd := PySem.strKind prog w) (strKind_is prog w k t) hD (fun h' hD' hs' => ?_) (by rw [sizeLine_eq]; lia)
  have kx : ∀ b o, ¬ Or2 X W b → s₃.heap.get? b = some o → h'.get? b = some o := fun b o nb e => hs'.extBut b o (fun z => nb (.inr (by rw [z]; exact wa))) e
  obtain ⟨i4, k4⟩ := i3.setCell (tk := s₃.toks + 1) u wa hs'.extBut ⟨hns, _, hD', Nat.le_trans (stored_length_le _ _ _) (by lia), fun k' d' e => by
    rw [valueAt_stored]
    rw [List.lookup_cons] at e
    cases hb : k' == k with
    | true =>
      rw [hb] at e; cases e
      rw [if_pos (beq_iff_eq.mp hb)]
      exact ⟨v, rfl, Rd.up rv kx⟩
    | false =>
      rw [hb] at e
      rw [if_neg (by simpa using hb)]
      obtain ⟨v', e1, r⟩ := hf k' d' e
      exact ⟨v', e1, r.up kx⟩⟩
  exact ⟨rfl, i4, (k1.trans (QQ.to (k2.trans k3))).trans k4⟩
theorem Ev.subTab {x : Str} {px pos : Pos} {slice : Expr} {a : Addr} {n : Nat} {kvs : List (Str × PyData)} {k : Str} {d : PyData} (hl : σ.lookup x = some (.is (.ref a))) (hm : (a, Cell.tab prog w n kvs) ∈ cs) (h2 : Ev prog w A G X W env σ cs slice (S k)) (hd : kvs.lookup k = some d)
    (hs : ∀ o i, subscripted slice false o i = operate [o, i] (getItem o i) := by intro _ _; rfl) (hdb : (x == ("__debug__" : Str)) = false := by decide) : Ev prog w A G X W env σ cs (.Subscript (.Name x px) slice pos) (.dat d) := by
  refine ⟨fun s i => ?_⟩
  refine Subscript_ (wff ((Ev.name (pos := px) hl hdb).run s i) fun a' s₁ ⟨k1, r1⟩ => wff (h2.run s₁ (i.quiet k1)) fun b s₂ ⟨k2, r2⟩ => ?_)
  have r' : a' = .ref a := r1
  subst r'
  obtain ⟨hns, vs, hD, hlen, hf⟩ := ((i.quiet k1).quiet k2).cell hm
  obtain ⟨⟨t, rfl⟩, _⟩ := Rd.str_inv r2
  obtain ⟨v, hv, rv⟩ := hf k d hd
  have hT : s₂.TypeIs (.ref a) "dict" := hD.typeIs
  unfold subscriptTail
  refine wpAny_bind ?_
  rw [getitemInPython_of_ne hT.not_modules]
  refine wpAny_bind (wpAny_specialOf hT slot_dict_getitem.lookup ?_)
  have fin : wpAny (model prog w) A (subscripted slice false (.ref a) (.str k t)) (fun r s₃ => wpAny (model prog w) A (letTemporaryGo (.Name x px) (.ref a) r >>= fun _ => pure r) (fun v s' => QQ G s s' ∧ (VD.dat d).At G (Or2 X W) s'.heap v) FF s₃) FF s₂ := by
    rw [hs]
    exact wpAny_operating (wpAny_getItem_of (strKind_is prog w k t) hD.mapOf hv (wpAny_bind (wpAny_letTemporaryGo (wpAny_pure ⟨(k1.trans k2).trans QS.toks, rv⟩))))
  first
    | exact wpAny_pure (wpAny_bind fin)
    | exact wpAny_bind (wpAny_pure (wpAny_bind fin))
    | exact wpAny_bind fin
end
end Mine
set_option maxRecDepth 100000
set_option maxHeartbeats 2000000
namespace Mine
open PySem PySem.W PyProof.Rows PySem.Calls

/-! the defs, by their places in the text -/
noncomputable def theDef (k : Nat) : Stmt := (PySem.Challenge.pw_ph0150_01.main.body[k]?).getD (.Pass default)
noncomputable def theMeth (k : Nat) : Stmt := match theDef 7 with
  | .ClassDef _ _ _ b .. => (b[k]?).getD (.Pass default)
  | _ => .Pass default
noncomputable def defBody : Stmt → List Stmt | .FunctionDef _ _ b .. => b | _ => []
noncomputable def defArgs : Stmt → Arguments | .FunctionDef _ a .. => a | _ => default
noncomputable def defScope : Stmt → Scope | .FunctionDef _ _ _ _ _ _ s .. => s | _ => default
/-- a function object's data: the def, and what making it left -/
noncomputable def fnOf (d : Stmt) (nm q : Str) (kd doc pm cv ct : Value) : FuncData :=
  { name := nm, qualname := q, params := defArgs d, body := .stmts (defBody d), scope := defScope d, globals := mainGlobals, closure := [], defaults := .none, kwdefaults := kd, doc, pyModule := pm, annotations := none, code := cv, closureTuple := ct, builtins := builtinsNs }
structure IsFn (G : Gn) (a : Addr) (d : Stmt) (fd : FuncData) : Prop where
  is : ∃ nm q kd doc pm cv ct, fd = fnOf d nm q kd doc pm cv ct
  obj : ∃ o, G.B.get? a = some o ∧ o.data = .func fd
  code : G.B.CodeRec fd.code fd.qualname
theorem IsFn.def {G : Gn} {a : Addr} {d : Stmt} {nm q : Str} {kd doc pm cv ct : Value} (h : IsFn G a d (fnOf d nm q kd doc pm cv ct)) (hco : (defScope d).isCoroutine = false) (hgen : (defScope d).isGenerator = false) (hk : (defScope d).kind = .function) : Def G a (fnOf d nm q kd doc pm cv ct) (defBody d) :=
  ⟨h.obj, h.code, rfl, rfl, rfl, rfl, hco, hgen, hk⟩
theorem IsFn.fo {G : Gn} {a : Addr} {d : Stmt} {fd : FuncData} (h : IsFn G a d fd) : FnObj G a := let ⟨o, e, q⟩ := h.obj; ⟨o, fd, e, q⟩

theorem no_cs {l : List (Addr × Cell)} : ∀ p, p ∈ ([] : List (Addr × Cell)) → p ∈ l := fun _ h => absurd h List.not_mem_nil
section
variable {prog : Program} {w : World} {A : Around} {G : Gn} {X W : Addr → Prop} {env : Env} {σ : List (Str × VD)} {cs cs' : List (Addr × Cell)} {s : Shared}
/-- plain arguments -/
theorem bind1 {fd : FuncData} {x : Str} {d : VD} (h : ∀ v, bindArgs fd ⟨[v], []⟩ = pure [(x, v)]) : ∀ A X s vs, Ok G X s → AtL G X s.heap vs [d] → wpAny (model prog w) A (bindArgs fd ⟨vs, []⟩) (fun bs s' => QQ G s s' ∧ bs.map (·.1) = ([(x, d)] : List (Str × VD)).map (·.1) ∧ AtL G X s'.heap (bs.map (·.2)) (([(x, d)] : List (Str × VD)).map (·.2))) FF s := by
  intro A X s vs i r
  obtain _ | ⟨r1, _ | _⟩ := r
  rw [h]
  exact wpAny_pure ⟨QS.refl s, rfl, .cons r1 .nil⟩
theorem bind2 {fd : FuncData} {x y : Str} {d e : VD} (h : ∀ v u, bindArgs fd ⟨[v, u], []⟩ = pure [(x, v), (y, u)]) : ∀ A X s vs, Ok G X s → AtL G X s.heap vs [d, e] → wpAny (model prog w) A (bindArgs fd ⟨vs, []⟩) (fun bs s' => QQ G s s' ∧ bs.map (·.1) = ([(x, d), (y, e)] : List (Str × VD)).map (·.1) ∧ AtL G X s'.heap (bs.map (·.2)) (([(x, d), (y, e)] : List (Str × VD)).map (·.2))) FF s := by
  intro A X s vs i r
  obtain _ | ⟨r1, _ | ⟨r2, _ | _⟩⟩ := r
  rw [h]
  exact wpAny_pure ⟨QS.refl s, rfl, .cons r1 (.cons r2 .nil)⟩
end

section
variable {prog : Program} {w : World} {A : Around} {G : Gn} {X W : Addr → Prop} {env : Env} {σ σ' : List (Str × VD)} {cs cs' : List (Addr × Cell)} {s : Shared}
section
variable {U : Un}
theorem Ex.thenRet {t : Expr} {b o rest : List Stmt} {pos : Pos} {Q : Post} (ht : Tr prog w A G X W env σ cs t true) (h : ExU U prog w A G X W env σ cs b fun fd W' σ' cs' => fd ≠ .next ∧ Q fd W' σ' cs') : ExU U prog w A G X W env σ cs (.If t b o pos :: rest) Q :=
  Ex.iteT ht h (fun _ _ _ q => absurd rfl q.1) fun _ _ _ _ _ q => q.2
theorem Ex.skip {t : Expr} {b rest : List Stmt} {pos : Pos} {Q : Post} (ht : Tr prog w A G X W env σ cs t false) (h : ExU U prog w A G X W env σ cs rest Q) : ExU U prog w A G X W env σ cs (.If t b [] pos :: rest) Q :=
  Ex.iteF (Q1 := fun fd W' σ' cs' => fd = .next ∧ W' = W ∧ σ' = σ ∧ cs' = cs) ht (Ex.nil ⟨rfl, rfl, rfl, rfl⟩) (fun _ _ _ ⟨_, e1, e2, e3⟩ => by subst e1; subst e2; subst e3; exact h) fun _ _ _ _ n q => absurd q.1 n
/-- what a branch leaves, told at once -/
noncomputable abbrev At (W : Addr → Prop) (σ : List (Str × VD)) (cs : List (Addr × Cell)) : Post := fun fd W' σ' cs' => fd = .next ∧ W' = W ∧ σ' = σ ∧ cs' = cs
theorem Ex.thenGo {t : Expr} {b o rest : List Stmt} {pos : Pos} {Q : Post} {W' : Addr → Prop} (ht : Tr prog w A G X W env σ cs t true) (h1 : ExU U prog w A G X W env σ cs b (At W' σ' cs')) (h : ExU U prog w A G X W' env σ' cs' rest Q) : ExU U prog w A G X W env σ cs (.If t b o pos :: rest) Q :=
  Ex.iteT ht h1 (fun _ _ _ ⟨_, e1, e2, e3⟩ => by subst e1; subst e2; subst e3; exact h) fun _ _ _ _ n q => absurd q.1 n
theorem Ex.end : ExU U prog w A G X W env σ cs [] (At W σ cs) := Ex.nil ⟨rfl, rfl, rfl, rfl⟩
end
end

section
variable {prog : Program} {w : World} {A : Around} {G : Gn} {X W : Addr → Prop} {env : Env} {σ σ' : List (Str × VD)} {cs cs' : List (Addr × Cell)} {s : Shared}
/-- items that are data -/
noncomputable def EvD (prog : Program) (w : World) (A : Around) (G : Gn) (X W : Addr → Prop) (env : Env) (σ : List (Str × VD)) (cs : List (Addr × Cell)) (es : List Expr) (ds : List PyData) : Prop := EvL prog w A G X W env σ cs es (ds.map VD.dat)
theorem EvD.nil : EvD prog w A G X W env σ cs [] [] := EvL.nil
theorem EvD.cons {e : Expr} {es : List Expr} {d : PyData} {ds : List PyData} (h : Ev prog w A G X W env σ cs e (.dat d)) (hs : EvD prog w A G X W env σ cs es ds) (he : starEach (e :: es) env = (false, eval e env) :: starEach es env) : EvD prog w A G X W env σ cs (e :: es) (d :: ds) := EvL.cons h hs he
theorem EvD.list {es : List Expr} {pos : Pos} (ds : List PyData) (h : EvD prog w A G X W env σ cs es ds) (hl : ds.length ≤ 1000) : Ev prog w A G X W env σ cs (.List es pos) (.dat (.list ds)) := Ev.list h (Nat.le_trans hl (by rw [sizeLine_eq]; decide))
theorem EvD.tuple {es : List Expr} {n : Nat} {pos : Pos} (ds : List PyData) (h : EvD prog w A G X W env σ cs es ds) (hl : ds.length ≤ 1000) : Ev prog w A G X W env σ cs (.Tuple es n pos) (.dat (.tuple ds)) := Ev.tuple h (Nat.le_trans hl (by rw [sizeLine_eq]; decide))
theorem star_const {c : Const} {k : Nat} {pos : Pos} {es : List Expr} : starEach (.Constant c k pos :: es) env = (false, eval (.Constant c k pos) env) :: starEach es env := rfl
theorem star_name {x : Str} {pos : Pos} {es : List Expr} : starEach (.Name x pos :: es) env = (false, eval (.Name x pos) env) :: starEach es env := rfl
theorem star_sub {v i : Expr} {pos : Pos} {es : List Expr} : starEach (.Subscript v i pos :: es) env = (false, eval (.Subscript v i pos) env) :: starEach es env := rfl
theorem star_call {f : Expr} {as : List Expr} {kws : List Keyword} {pos : Pos} {es : List Expr} : starEach (.Call f as kws pos :: es) env = (false, eval (.Call f as kws pos) env) :: starEach es env := rfl
theorem star_bin {a b : Expr} {op : Operator} {pos : Pos} {es : List Expr} : starEach (.BinOp a op b pos :: es) env = (false, eval (.BinOp a op b pos) env) :: starEach es env := rfl
theorem star_tuple {as : List Expr} {n : Nat} {pos : Pos} {es : List Expr} : starEach (.Tuple as n pos :: es) env = (false, eval (.Tuple as n pos) env) :: starEach es env := rfl
theorem star_comp {e : Expr} {gs : List Comprehension} {sc : Scope} {pos : Pos} {es : List Expr} : starEach (.ListComp e gs sc pos :: es) env = (false, eval (.ListComp e gs sc pos) env) :: starEach es env := rfl
end

/-! _law_key -/
noncomputable def keyTab : List Str := ["Beta", "dev", "a", "alpha", "b", "c", "RC", "0", "2", "9", "10", "p", "pl"]
noncomputable def keyStr (c : Int) : Str := if c < 0 then "" else "1." ++ (keyTab[c.toNat]?).getD ""
section
variable {prog : Program} {w : World} {A : Around} {G : Gn} {X W : Addr → Prop} {env : Env} {σ : List (Str × VD)} {cs cs' : List (Addr × Cell)} {s : Shared}
theorem key_law {a : Addr} {fd : FuncData} (hG : GOk G) (h : IsFn G a (theDef 13) fd) {c : Int} (hc : c < 13) : FnG prog w G (.ref a) 2 [] cs cs [] [I c] (S (keyStr c)) := by
  obtain ⟨nm, q, kd, doc, pm, cv, ct, rfl⟩ := h.is
  refine FnG.of_def (σ := [("code", I c)]) hG (h.def rfl rfl rfl) (show ([("code" : Str)]).Nodup by decide) (fun k x hx => ?_) (bind1 fun v => rfl) fun A L X hA => ?_
  · simp only [List.map_cons, List.map_nil, List.mem_singleton] at hx
    subst hx
    exact .inl rfl
  · by_cases hc0 : c < 0
    · refine Ex.thenRet ?_ ?_
      · exact Tr.conv (Tr.cmp (x := I c) (y := I 0) (Ev.name rfl) Ev.const_int ltI) (decide_eq_true hc0)
      · refine Ex.ret Ev.const_str ⟨nofun, .inl ?_, fun p hp => hp⟩
        rw [keyStr, if_pos hc0]
    · refine Ex.skip ?_ ?_
      · exact Tr.conv (Tr.cmp (x := I c) (y := I 0) (Ev.name rfl) Ev.const_int ltI) (decide_eq_false hc0)
      · obtain ⟨n, rfl⟩ : ∃ n : Nat, c = n := ⟨c.toNat, by lia⟩
        have hn : n < 13 := by lia
        have e : keyStr n = "1." ++ (keyTab[n]?).getD "" := by rw [keyStr, if_neg hc0]; rfl
        refine Ex.ret (d := S (keyStr n)) ?_ ?_
        rotate_left
        · exact ⟨Or.inl (by with_reducible rfl), fun p hp => hp⟩
        rw [e]
        have ho : ((keyTab.map PyData.str)[((n : Int)).toNat]? = some (.str ((keyTab[n]?).getD ""))) := by
          have : n < keyTab.length := hn
          simp [this]
        refine Ev.bin (x := S "1.") (y := S ((keyTab[n]?).getD "")) ?_ ?_ ?_
        · exact Ev.const_str
        · refine Ev.sub (x := .dat (.list (keyTab.map .str))) (y := I n) ?_ ?_ ?_
          · refine EvD.list (keyTab.map .str) ?_ (by decide)
            unfold keyTab
            simp only [List.map_cons, List.map_nil]
            repeat (first | with_reducible exact EvD.nil | with_reducible refine EvD.cons Ev.const_str ?_ star_const)
          · exact Ev.name (by kernel_rfl)
          · exact itL (by lia) (by lia) ho
        · refine addS ?_
          have : ∀ m : Nat, m < 13 → Str.length "1." + ((keyTab[m]?).getD "").length ≤ sizeLine := by decide +kernel
          exact this n hn
end
end Mine
set_option maxRecDepth 100000
set_option maxHeartbeats 2000000
namespace Mine
open PySem PySem.W PyProof.Rows PySem.Calls

/-! _law_ranks -/
noncomputable def rankTab : List Int := [0, 10, 20, 20, 30, 40, 50, 100, 100, 100, 100, 200, 200]
noncomputable def partTab : List PyData := [.str "Beta", .str "dev", .str "a", .str "alpha", .str "b", .str "c", .str "RC", .int 0, .int 2, .int 9, .int 10, .str "p", .str "pl"]
noncomputable def rankD (c : Nat) : List PyData := [.int 100, .int 1, .int ((rankTab[c]?).getD 0), (partTab[c]?).getD .none]
section
variable {prog : Program} {w : World} {A : Around} {G : Gn} {X W : Addr → Prop} {env : Env} {σ : List (Str × VD)} {cs cs' : List (Addr × Cell)} {s : Shared}
theorem ranks_law {a : Addr} {fd : FuncData} (hG : GOk G) (h : IsFn G a (theDef 14) fd) {c : Nat} (hc : c < 13) : FnG prog w G (.ref a) 2 [] cs cs [] [I c] (.dat (.list (rankD c))) := by
  obtain ⟨nm, q, kd, doc, pm, cv, ct, rfl⟩ := h.is
  refine FnG.of_def (σ := [("code", I c)]) hG (h.def rfl rfl rfl) (show ([("code" : Str)]).Nodup by decide) (fun k x hx => ?_) (bind1 fun v => rfl) fun A L X hA => ?_
  · simp only [List.map_cons, List.map_nil, List.mem_singleton] at hx
    subst hx
    exact .inl rfl
  · refine Ex.step (St1.assign (d := .dat (.list (rankTab.map .int))) ?_ (.inl rfl)) ?_
    · refine EvD.list (rankTab.map .int) ?_ (by decide)
      unfold rankTab
      simp only [List.map_cons, List.map_nil]
      repeat (first | with_reducible exact EvD.nil | with_reducible refine EvD.cons Ev.const_int ?_ star_const)
    refine Ex.step (St1.assign (d := .dat (.list partTab)) ?_ (.inl rfl)) ?_
    · refine EvD.list partTab ?_ (by decide)
      unfold partTab
      repeat (first | with_reducible exact EvD.nil | with_reducible refine EvD.cons Ev.const_str ?_ star_const | with_reducible refine EvD.cons Ev.const_int ?_ star_const)
    have h1 : (rankTab.map PyData.int)[((c : Int)).toNat]? = some (.int ((rankTab[c]?).getD 0)) := by
      have : c < rankTab.length := hc
      simp [this]
    have h2 : partTab[((c : Int)).toNat]? = some ((partTab[c]?).getD .none) := by
      have : c < partTab.length := hc
      simp [this]
    refine Ex.ret (d := .dat (.list (rankD c))) ?_ ⟨Or.inl (by with_reducible rfl), fun p hp => hp⟩
    refine EvD.list (rankD c) ?_ (by show 4 ≤ 1000; decide)
    unfold rankD
    refine EvD.cons Ev.const_int ?_ star_const
    refine EvD.cons Ev.const_int ?_ star_const
    refine EvD.cons (Ev.sub (x := .dat (.list (rankTab.map .int))) (y := I c) ?_ ?_ ?_) ?_ star_sub
    · exact Ev.name (by kernel_rfl)
    · exact Ev.name (by kernel_rfl)
    · exact itL (by lia) (by lia) h1
    refine EvD.cons (Ev.sub (x := .dat (.list partTab)) (y := I c) ?_ ?_ ?_) EvD.nil star_sub
    · exact Ev.name (by kernel_rfl)
    · exact Ev.name (by kernel_rfl)
    · exact itL (by lia) (by lia) h2
end

/-! _law_left -/
/-- a deed: when, place, code -/
noncomputable abbrev Dd := Nat × Nat × Int
/-- what is held: code, when, place -/
noncomputable abbrev Hh := Nat × Nat × Nat
noncomputable def encD (d : Dd) : PyData := .tuple [.int d.1, .int d.2.1, .int d.2.2]
noncomputable def encH (d : Hh) : PyData := .tuple [.int d.1, .int d.2.1, .int d.2.2]
noncomputable def rkD (d : Dd) : Nat := d.1 * 64 + d.2.1
noncomputable def rkH (d : Hh) : Nat := (d.1 * 16 + d.2.1) * 64 + d.2.2
noncomputable def minBy {α : Type} (rk : α → Nat) : List α → Option α
  | [] => none
  | x :: xs => match minBy rk xs with
    | none => some x
    | some y => if rk y < rk x then some y else some x
theorem minBy_none {α : Type} {rk : α → Nat} : ∀ {xs : List α}, minBy rk xs = none → xs = []
  | [], _ => rfl
  | x :: xs, h => by
    unfold minBy at h
    cases hm : minBy rk xs with
    | none => rw [hm] at h; cases h
    | some y => rw [hm] at h; simp only at h; split at h <;> cases h
theorem minBy_spec {α : Type} {rk : α → Nat} : ∀ {xs : List α} {m : α}, minBy rk xs = some m → m ∈ xs ∧ ∀ x, x ∈ xs → rk m ≤ rk x
  | [], _, h => by cases h
  | x :: xs, m, h => by
    unfold minBy at h
    cases hm : minBy rk xs with
    | none =>
      rw [hm] at h; cases h
      have := minBy_none hm
      subst this
      exact ⟨.head _, fun y hy => by rw [List.mem_singleton.mp hy]; exact Nat.le_refl _⟩
    | some y =>
      rw [hm] at h
      simp only at h
      obtain ⟨h1, h2⟩ := minBy_spec hm
      split at h <;> cases h
      · exact ⟨.tail _ h1, fun z hz => (List.mem_cons.mp hz).elim (fun e => by rw [e]; lia) (h2 z)⟩
      · exact ⟨.head _, fun z hz => (List.mem_cons.mp hz).elim (fun e => by rw [e]; exact Nat.le_refl _) fun hz => by have := h2 z hz; lia⟩
/-- one deed -/
noncomputable def heldStep (held : List Hh) (d : Dd) : List Hh := if d.2.2 < 0 then (match minBy rkH held with | none => held | some m => held.erase m) else held ++ [(d.2.2.toNat, d.1, d.2.1)]
/-- what is left, or nothing where one takes from nothing -/
noncomputable def leftR : List Hh → List Dd → Option (List Hh)
  | held, [] => some held
  | held, d :: r => if d.2.2 < 0 ∧ held = [] then none else leftR (heldStep held d) r
noncomputable def leftOf (ds : List Dd) : Option (List Hh) := leftR [] (sortBy rkD ds)
theorem leftR_fails : ∀ (xs : List Dd) (held : List Hh) (j : Nat) (d : Dd), xs[j]? = some d → d.2.2 < 0 → (xs.take j).foldl heldStep held = [] → leftR held xs = none
  | [], _, _, _, h, _, _ => by simp at h
  | x :: xs, held, 0, d, h, h1, h2 => by
    simp at h h2; subst h
    unfold leftR
    rw [if_pos ⟨h1, h2⟩]
  | x :: xs, held, j + 1, d, h, h1, h2 => by
    unfold leftR
    split
    · rfl
    · exact leftR_fails xs _ j d (by simpa using h) h1 (by simpa using h2)
theorem leftR_ok : ∀ (xs : List Dd) (held : List Hh), (∀ j d, xs[j]? = some d → d.2.2 < 0 → (xs.take j).foldl heldStep held ≠ []) → leftR held xs = some (xs.foldl heldStep held)
  | [], _, _ => rfl
  | x :: xs, held, h => by
    unfold leftR
    have h0 := h 0 x rfl
    rw [if_neg fun c => h0 c.1 c.2]
    rw [leftR_ok xs _ fun j d hj hd => by have := h (j + 1) d (by simpa using hj) hd; simpa using this]
    rfl
theorem eqv_encH (a b : Hh) : PyData.eqv (encH a) (encH b) = decide (a = b) := by
  obtain ⟨a1, a2, a3⟩ := a
  obtain ⟨b1, b2, b3⟩ := b
  have : PyData.eqv (encH (a1, a2, a3)) (encH (b1, b2, b3)) = (decide ((a1 : Int) = b1) && (decide ((a2 : Int) = b2) && (decide ((a3 : Int) = b3) && true))) := by
    first | rfl | simp [encH, PyData.eqv]
  rw [this]
  have e1 : ∀ x y : Nat, decide ((x : Int) = y) = decide (x = y) := fun x y => by
    by_cases h : x = y
    · simp [h]
    · rw [decide_eq_false h, decide_eq_false (by lia)]
  simp only [e1, Bool.and_true, Prod.mk.injEq, Bool.decide_and]
theorem eraseP_encH (held : List Hh) (m : Hh) : (held.map encH).eraseP (fun y => PyData.eqv y (encH m)) = (held.erase m).map encH := by
  induction held with
  | nil => rfl
  | cons x xs ih =>
    rw [List.map_cons]
    by_cases h : x = m
    · subst h
      rw [List.eraseP_cons_of_pos (by rw [eqv_encH]; simp), List.erase_cons_head]
    · rw [List.eraseP_cons_of_neg (by rw [eqv_encH]; simp [h]), List.erase_cons_tail (by simp [h]), List.map_cons, ih]
theorem ltd_encH {a b : Hh} (ha : a.2.1 < 16 ∧ a.2.2 < 64) (hb : b.2.1 < 16 ∧ b.2.2 < 64) : ltd (encH a) (encH b) = some (decide (rkH a < rkH b)) := by
  obtain ⟨a1, a2, a3⟩ := a
  obtain ⟨b1, b2, b3⟩ := b
  have ei : ∀ x y : Nat, PyData.eqv (.int (x : Int)) (.int (y : Int)) = decide (x = y) := fun x y => by
    have : PyData.eqv (.int (x : Int)) (.int (y : Int)) = decide ((x : Int) = y) := by first | rfl | simp [PyData.eqv]
    rw [this]
    by_cases h : x = y
    · simp [h]
    · rw [decide_eq_false h, decide_eq_false (by lia)]
  show ltdL [.int a1, .int a2, .int a3] [.int b1, .int b2, .int b3] = _
  simp only [ltdL, ltd, ei, decide_eq_true_eq]
  unfold rkH
  simp only at ha hb ⊢
  repeat' split
  all_goals refine congrArg some ?_
  all_goals first
    | (refine decide_eq_decide.mpr ?_; lia)
    | (refine (decide_eq_false ?_).symm; lia)
end Mine
set_option maxRecDepth 100000
set_option maxHeartbeats 2000000
namespace Mine
open PySem PySem.W PyProof.Rows PySem.Calls

theorem ltd_encD {a b : Dd} (ha : a.2.1 < 64) (hb : b.2.1 < 64) (ne : rkD a ≠ rkD b) : ltd (encD a) (encD b) = some (decide (rkD a < rkD b)) := by
  obtain ⟨a1, a2, a3⟩ := a
  obtain ⟨b1, b2, b3⟩ := b
  have ei : ∀ x y : Nat, PyData.eqv (.int (x : Int)) (.int (y : Int)) = decide (x = y) := fun x y => by
    have : PyData.eqv (.int (x : Int)) (.int (y : Int)) = decide ((x : Int) = y) := by first | rfl | simp [PyData.eqv]
    rw [this]
    by_cases h : x = y
    · simp [h]
    · rw [decide_eq_false h, decide_eq_false (by lia)]
  show ltdL [.int a1, .int a2, .int a3] [.int b1, .int b2, .int b3] = _
  simp only [ltdL, ltd, ei, decide_eq_true_eq]
  unfold rkD at ne ⊢
  simp only at ha hb ne ⊢
  repeat' split
  all_goals first
    | (exfalso; subst_vars; exact ne rfl)
    | (refine congrArg some (decide_eq_decide.mpr ?_); lia)
theorem rkH_inj {a b : Hh} (ha : a.2.1 < 16 ∧ a.2.2 < 64) (hb : b.2.1 < 16 ∧ b.2.2 < 64) (e : rkH a = rkH b) : a = b := by
  obtain ⟨a1, a2, a3⟩ := a
  obtain ⟨b1, b2, b3⟩ := b
  unfold rkH at e
  simp only at ha hb e
  have h1 : a1 = b1 := by lia
  have h2 : a2 = b2 := by lia
  have h3 : a3 = b3 := by lia
  rw [h1, h2, h3]
/-- small deeds, at places of their own -/
structure DdOk (ds : List Dd) : Prop where
  small : ∀ d, d ∈ ds → d.1 < 16 ∧ d.2.1 < 64 ∧ d.2.2 < 13
  nd : (ds.map (·.2.1)).Nodup
  len : ds.length < 64
theorem rkD_inj {a b : Dd} (ha : a.2.1 < 64) (hb : b.2.1 < 64) (e : rkD a = rkD b) : a.1 = b.1 ∧ a.2.1 = b.2.1 := by
  unfold rkD at e; lia
theorem DdOk.rk {ds : List Dd} (h : DdOk ds) : (ds.map rkD).Nodup := by
  have := h.nd
  rw [List.Nodup, List.pairwise_map] at this ⊢
  refine this.imp_of_mem fun {a b} ha hb ne e => ne (rkD_inj (h.small a ha).2.1 (h.small b hb).2.1 e).2
theorem held_small : ∀ (xs : List Dd) (held : List Hh), (∀ d, d ∈ xs → d.1 < 16 ∧ d.2.1 < 64 ∧ d.2.2 < 13) → (∀ h, h ∈ held → h.2.1 < 16 ∧ h.2.2 < 64) → ∀ h, h ∈ xs.foldl heldStep held → h.2.1 < 16 ∧ h.2.2 < 64
  | [], _, _, hh => hh
  | x :: xs, held, hx, hh => by
    refine held_small xs _ (fun d hd => hx d (.tail _ hd)) fun h hm => ?_
    unfold heldStep at hm
    split at hm
    · split at hm
      · exact hh h hm
      · exact hh h (List.mem_of_mem_erase hm)
    · rcases List.mem_append.mp hm with hm | hm
      · exact hh h hm
      · rw [List.mem_singleton.mp hm]
        exact ⟨(hx x (.head _)).1, (hx x (.head _)).2.1⟩
theorem held_len : ∀ (xs : List Dd) (held : List Hh), (xs.foldl heldStep held).length ≤ held.length + xs.length
  | [], _ => by simp
  | x :: xs, held => by
    have h := held_len xs (heldStep held x)
    have h2 : (heldStep held x).length ≤ held.length + 1 := by
      unfold heldStep
      split
      · split
        · lia
        · exact Nat.le_trans (List.length_erase_le) (by lia)
      · simp
    rw [List.foldl_cons, List.length_cons]
    lia

section
variable {prog : Program} {w : World} {A : Around} {G : Gn} {X W : Addr → Prop} {env : Env} {σ : List (Str × VD)} {cs cs' : List (Addr × Cell)} {s : Shared}
/-- min(held) -/
theorem min_held {a : Addr} {held : List Hh} {m : Hh} {f : Str} {p pos px : Pos} {x : Str} (hA : Aok A 1) (hf : Ev prog w A G X W env σ cs (.Name f p) (.is (.builtin "min"))) (hl : σ.lookup x = some (.is (.ref a))) (hm : (a, Cell.lst (held.map encH)) ∈ cs) (hs : ∀ h, h ∈ held → h.2.1 < 16 ∧ h.2.2 < 64) (e : minBy rkH held = some m)
    (hd : (x == ("__debug__" : Str)) = false := by decide) : Ev prog w A G X W env σ cs (.Call (.Name f p) [.Name x px] [] pos) (.dat (encH m)) := by
  obtain ⟨h1, h2⟩ := minBy_spec e
  have h0 : 0 < held.length := List.length_pos_of_mem h1
  obtain ⟨k1, k2⟩ := argBest_lt (fun i => (((held[i]?).elim 0 rkH : Nat) : Int)) (held.length - 1)
  refine Ev.callB hf (EvL.cons (Ev.name hl hd) EvL.nil) (minCell (ds := held.map encH) (bt := fun i j => decide ((((held[i]?).elim 0 rkH : Nat) : Int) < (((held[j]?).elim 0 rkH : Nat) : Int))) hA.hh hm (by simpa using h0) (fun i j y z hy hz => ?_) (fun d hd => ?_) ?_)
  · rw [List.getElem?_map] at hy hz
    cases hi : held[i]? with
    | none => rw [hi] at hy; cases hy
    | some b =>
      cases hj : held[j]? with
      | none => rw [hj] at hz; cases hz
      | some c =>
        rw [hi] at hy; rw [hj] at hz
        cases hy; cases hz
        rw [ltd_encH (hs b (List.mem_of_getElem? hi)) (hs c (List.mem_of_getElem? hj))]
        simp only [Option.elim_some]
        refine congrArg some (decide_eq_decide.mpr ?_)
        lia
  · obtain ⟨b, _, rfl⟩ := List.mem_map.mp hd
    have := hA.un
    have e1 : (encH b).depth = 1 := rfl
    lia
  · rw [List.length_map]
    generalize argBest (fun i j => decide ((((held[i]?).elim 0 rkH : Nat) : Int) < (((held[j]?).elim 0 rkH : Nat) : Int))) (held.length - 1) = k at *
    have hk : k < held.length := by lia
    have ek : held[k]? = some held[k] := by simp [hk]
    rw [List.getElem?_map, ek]
    obtain ⟨j, hj⟩ := List.mem_iff_getElem?.mp h1
    have hj' := (List.getElem?_eq_some_iff.mp hj).1
    have := k2 j (by lia)
    rw [ek, hj] at this
    simp only [Option.elim_some] at this
    have h3 := h2 held[k] (List.getElem_mem hk)
    have : held[k] = m := rkH_inj (hs _ (List.getElem_mem hk)) (hs m h1) (by lia)
    rw [this]; rfl
end
end Mine
set_option maxRecDepth 100000
set_option maxHeartbeats 2000000
namespace Mine
open PySem PySem.W PyProof.Rows PySem.Calls

/-- the builtins that are read -/
noncomputable abbrev BiAt (G : Gn) (x : Str) (v : Value) : Prop := G.mg x = none ∧ G.mb x = some v
structure Bis (G : Gn) : Prop where
  sorted' : BiAt G "sorted" (.builtin "sorted")
  min' : BiAt G "min" (.builtin "min")
  max' : BiAt G "max" (.builtin "max")
  len' : BiAt G "len" (.builtin "len")
  str' : BiAt G "str" (.type "str")
  range' : BiAt G "range" (.type "range")
  type' : BiAt G "type" (.type "type")
  list' : BiAt G "list" (.type "list")
  int' : BiAt G "int" (.type "int")
section
variable {prog : Program} {w : World} {A : Around} {G : Gn} {X W : Addr → Prop} {env : Env} {σ : List (Str × VD)} {cs cs' : List (Addr × Cell)} {s : Shared}
theorem Ev.bi {x : Str} {v : Value} {pos : Pos} (hG : GOk G) (hB : BiAt G x v) (hx : env.kindOf x = some .globalImplicit := by rfl) (hd : (x == ("__debug__" : Str)) = false := by decide) : Ev prog w A G X W env σ cs (.Name x pos) (.is v) :=
  Ev.builtin hG hB.1 hB.2 hx hd

theorem Ex.thenLast {U : Un} {t : Expr} {b o : List Stmt} {pos : Pos} {Q : Post} (ht : Tr prog w A G X W env σ cs t true) (h : ExU U prog w A G X W env σ cs b Q) : ExU U prog w A G X W env σ cs [.If t b o pos] Q := Ex.iteT ht h (fun _ _ _ q => Ex.nil q) fun _ _ _ _ _ q => q
theorem Ex.elseLast {U : Un} {t : Expr} {b o : List Stmt} {pos : Pos} {Q : Post} (ht : Tr prog w A G X W env σ cs t false) (h : ExU U prog w A G X W env σ cs o Q) : ExU U prog w A G X W env σ cs [.If t b o pos] Q := Ex.iteF ht h (fun _ _ _ q => Ex.nil q) fun _ _ _ _ _ q => q
theorem Tgt.two {x y : Str} {px py p : Pos} {k : Nat} {a b : PyData} (hh : A.handled = none) (hx : StoreOk env x) (hy : StoreOk env y) : Tgt prog w A G env (.Tuple [.Name x px, .Name y py] k p) (.tuple [a, b]) [(y, .dat b), (x, .dat a)] :=
  Tgt.tuple (xs := [(x, px), (y, py)]) (ds := [a, b]) hh (fun q hq => by
    rcases List.mem_cons.mp hq with rfl | hq
    · exact hx
    · rw [List.mem_singleton.mp hq]; exact hy) rfl
theorem Tgt.three {x y z : Str} {px py pz p : Pos} {k : Nat} {a b c : PyData} (hh : A.handled = none) (hx : StoreOk env x) (hy : StoreOk env y) (hz : StoreOk env z) : Tgt prog w A G env (.Tuple [.Name x px, .Name y py, .Name z pz] k p) (.tuple [a, b, c]) [(z, .dat c), (y, .dat b), (x, .dat a)] :=
  Tgt.tuple (xs := [(x, px), (y, py), (z, pz)]) (ds := [a, b, c]) hh (fun q hq => by
    rcases List.mem_cons.mp hq with rfl | hq
    · exact hx
    · rcases List.mem_cons.mp hq with rfl | hq
      · exact hy
      · rw [List.mem_singleton.mp hq]; exact hz) rfl

theorem left_law {a : Addr} {fd : FuncData} (hG : GOk G) (hB : Bis G) (h : IsFn G a (theDef 15) fd) {ds : List Dd} (hds : DdOk ds) : FnG prog w G (.ref a) 3 [] [] [] [] [.dat (.list (ds.map encD))] (.dat (match leftOf ds with | none => .none | some l => .list (l.map encH))) := by
  obtain ⟨nm, q, kd, doc, pm, cv, ct, rfl⟩ := h.is
  refine FnG.of_def (σ := [("deeds", .dat (.list (ds.map encD)))]) hG (h.def rfl rfl rfl) (show ([("deeds" : Str)]).Nodup by decide) (fun k x hx => ?_) (bind1 fun v => rfl) fun A L X hA => ?_
  · simp only [List.map_cons, List.map_nil, List.mem_singleton] at hx
    subst hx
    exact .inl rfl
  refine Ex.newList (ds := []) EvL.nil rfl (by decide +kernel) (.inl rfl) fun ah hah => ?_
  have hp : (sortBy rkD ds).Perm ds := sortBy_perm
  have hsm : ∀ d, d ∈ sortBy rkD ds → d.1 < 16 ∧ d.2.1 < 64 ∧ d.2.2 < 13 := fun d hd => hds.small d (hp.subset hd)
  have hlen : (sortBy rkD ds).length < 64 := by rw [hp.length_eq]; exact hds.len
  have hw : ∀ d : Dd, encD d = .tuple [.int d.1, .int d.2.1, .int d.2.2] := fun _ => rfl
  refine Ex.forS (fun j => ∀ i d, i < j → (sortBy rkD ds)[i]? = some d → d.2.2 < 0 → ((sortBy rkD ds).take i).foldl heldStep [] ≠ []) (fun i d hi => by lia) (enc := encD) (xs := sortBy rkD ds) (bnd := fun d => [("code", I d.2.2), ("place", I d.2.1), ("when", I d.1)]) (inv := fun _ => [("held", .is (.ref ah))]) (cinv := fun j => [(ah, .lst ((((sortBy rkD ds).take j).foldl heldStep []).map encH))]) (EvS.list hA.hh ?_ (by rw [sizeLine_eq]; lia)) ?_ ?_ ?_ ?_ ?_ ?_
  · refine Ev.callB (Ev.bi hG hB.sorted') (EvL.cons (Ev.name (by kernel_rfl)) EvL.nil) (FnB.to (sortedB (κ := tuples' true) (.tup "int" _ (.inl rfl) fun d hd => ?_) hds.len hds.rk (fun x y hx hy ne => ltd_encD (hds.small x hx).2.1 (hds.small y hy).2.1 ne) fun d hd => ?_))
    · obtain ⟨b, _, rfl⟩ := List.mem_map.mp hd
      exact ⟨_, _, rfl, fun _ => ⟨_, rfl⟩, nofun⟩
    · have := hA.un
      have e1 : (encD d).depth = 1 := rfl
      lia
  · intro d hd
    exact Tgt.three hA.hh (.inl rfl) (.inl rfl) (.inl rfl)
  · intro x d e
    rw [List.lookup_cons] at e ⊢
    cases hb : x == "held" with
    | true => rw [hb] at e; exact e
    | false => rw [hb] at e; cases e
  · exact List.Sublist.refl _
  · intro j; rfl
  · intro j d hd hPj X'
    have hd' := List.mem_of_getElem? hd
    have hs := hsm d hd'
    have hheld : ∀ h, h ∈ ((sortBy rkD ds).take j).foldl heldStep [] → h.2.1 < 16 ∧ h.2.2 < 64 := held_small _ _ (fun x hx => hsm x (List.mem_of_mem_take hx)) nofun
    have htk : ((sortBy rkD ds).take (j + 1)).foldl heldStep [] = heldStep (((sortBy rkD ds).take j).foldl heldStep []) d := by
      rw [List.take_add_one, hd, List.foldl_append]; rfl
    have hl := held_len ((sortBy rkD ds).take j) []
    have hl2 : ((sortBy rkD ds).take j).length < 64 := by rw [List.length_take]; lia
    have hPn : (d.2.2 < 0 → ((sortBy rkD ds).take j).foldl heldStep [] ≠ []) → ∀ i d, i < j + 1 → (sortBy rkD ds)[i]? = some d → d.2.2 < 0 → ((sortBy rkD ds).take i).foldl heldStep [] ≠ [] := fun h0 i d' hi hd' hn => by
      by_cases e : i = j
      · subst e; rw [hd] at hd'; cases hd'; exact h0 hn
      · exact hPj i d' (by lia) hd' hn
    generalize hheld' : ((sortBy rkD ds).take j).foldl heldStep [] = held at *
    rw [htk]
    by_cases hc : d.2.2 < 0
    · refine Ex.elseLast ?_ ?_
      · exact Tr.conv (Tr.cmp (x := I d.2.2) (y := I 0) (Ev.name (by kernel_rfl)) Ev.const_int geI) (decide_eq_false (by lia))
      by_cases h0 : held = []
      · refine Ex.thenLast ?_ ?_
        · refine Tr.conv (eqCell (by kernel_rfl) (.head _) (EvD.list [] EvD.nil (by decide)) ?_) ?_
          · have := hA.un
            have e1 : (PyData.list []).depth = 1 := rfl
            lia
          · subst h0; rfl
        · refine Ex.ret Ev.const_none (.inr ⟨_, rfl, Or.inl ?_, no_cs⟩)
          have : leftOf ds = none := leftR_fails _ _ j d hd hc (hheld'.trans h0)
          rw [this]
      · refine Ex.elseLast ?_ ?_
        · refine Tr.conv (eqCell (by kernel_rfl) (.head _) (EvD.list [] EvD.nil (by decide)) ?_) ?_
          · have := hA.un
            have e1 : (PyData.list []).depth = 1 := rfl
            lia
          · cases held with
            | nil => exact absurd rfl h0
            | cons _ _ => rfl
        · obtain ⟨m, hm⟩ : ∃ m, minBy rkH held = some m := by
            cases e : minBy rkH held with
            | none => exact absurd (minBy_none e) h0
            | some m => exact ⟨m, rfl⟩
          have hst : heldStep held d = held.erase m := by unfold heldStep; rw [if_pos hc, hm]
          refine Ex.step (St1.remove (d := encH m) (by kernel_rfl) (min_held (hA.le (by lia)) (Ev.bi hG hB.min') (by kernel_rfl) (.head _) hheld hm) .head (.inr rfl) ?_ ?_ ?_) (Ex.nil (.inl ⟨.inl rfl, hPn (fun _ => ?_), rfl, ?_, ?_⟩))
          · rw [List.length_map, sizeLine_eq]; simp at hl; lia
          · rw [List.any_eq_true]
            exact ⟨encH m, List.mem_map_of_mem (minBy_spec hm).1, by rw [eqv_encH]; simp⟩
          · have := hA.un
            have e1 : (encH m).depth = 1 := rfl
            lia
          · exact h0
          · intro x d e
            rw [List.lookup_cons] at e
            cases hb : x == "held" with
            | true => rw [hb] at e; rw [beq_iff_eq.mp hb]; exact e
            | false => rw [hb] at e; cases e
          · rw [hst, eraseP_encH]; exact List.Sublist.refl _
    · refine Ex.thenLast ?_ ?_
      · exact Tr.conv (Tr.cmp (x := I d.2.2) (y := I 0) (Ev.name (by kernel_rfl)) Ev.const_int geI) (decide_eq_true (by lia))
      have hst : heldStep held d = held ++ [(d.2.2.toNat, d.1, d.2.1)] := by unfold heldStep; rw [if_neg hc]
      refine Ex.step (St1.append (d := encH (d.2.2.toNat, d.1, d.2.1)) (by kernel_rfl) ?_ .head (.inr rfl) ?_) (Ex.nil (.inl ⟨.inl rfl, hPn (fun q => absurd q hc), rfl, ?_, ?_⟩))
      · have e2 : encH (d.2.2.toNat, d.1, d.2.1) = .tuple [.int d.2.2, .int d.1, .int d.2.1] := by
          unfold encH
          rw [show ((d.2.2.toNat : Nat) : Int) = d.2.2 by lia]
        rw [e2]
        refine EvD.tuple _ ?_ (by show 3 ≤ 1000; decide)
        exact EvD.cons (Ev.name (by kernel_rfl)) (EvD.cons (Ev.name (by kernel_rfl)) (EvD.cons (Ev.name (by kernel_rfl)) EvD.nil star_name) star_name) star_name
      · rw [List.length_map, sizeLine_eq]; simp at hl; lia
      · intro x d e
        rw [List.lookup_cons] at e
        cases hb : x == "held" with
        | true => rw [hb] at e; rw [beq_iff_eq.mp hb]; exact e
        | false => rw [hb] at e; cases e
      · rw [hst, List.map_append]; exact List.Sublist.refl _
  · intro hP
    have e : leftOf ds = some ((sortBy rkD ds).foldl heldStep []) := leftR_ok _ _ fun j d hj hd => hP j d (List.getElem?_eq_some_iff.mp hj).1 hj hd
    rw [e]
    refine Ex.retCell (ds := ((((sortBy rkD ds).take (sortBy rkD ds).length).foldl heldStep []).map encH)) (by kernel_rfl) (.head _) hah ⟨Or.inl ?_, no_cs⟩
    rw [List.take_length]
end
end Mine
set_option maxRecDepth 100000
set_option maxHeartbeats 2000000
namespace Mine
open PySem PySem.W PyProof.Rows PySem.Calls

/-! _law_bridges -/
noncomputable abbrev Row := Str × Str
noncomputable def encR (r : Row) : PyData := .tuple [.str r.1, .str r.2]
noncomputable def stepC (p : Row × Bool) : Int := if p.1.2 = "" then -1 else if p.2 then 0 else 1
noncomputable def cntAt (z : List (Row × Bool)) (j : Nat) : Int := ((z.take j).map stepC).sum
noncomputable def bridgesL (z : List (Row × Bool)) (n : Nat) : List Int := 0 :: ((List.range n).filter fun i => decide (cntAt z (i + 1) = 0)).map fun i => ((i + 1 : Nat) : Int)
theorem cntAt_succ {z : List (Row × Bool)} {j : Nat} {p : Row × Bool} (h : z[j]? = some p) : cntAt z (j + 1) = cntAt z j + stepC p := by
  unfold cntAt
  rw [List.take_add_one, h]
  simp
theorem bridgesL_succ {z : List (Row × Bool)} {j : Nat} : bridgesL z (j + 1) = bridgesL z j ++ (if cntAt z (j + 1) = 0 then [((j + 1 : Nat) : Int)] else []) := by
  unfold bridgesL
  rw [List.range_succ, List.filter_append, List.map_append, List.cons_append]
  by_cases h : cntAt z (j + 1) = 0 <;> simp [h]
theorem eqv_str (a b : Str) : PyData.eqv (.str a) (.str b) = decide (a = b) := by
  have : PyData.eqv (.str a) (.str b) = (a == b) := by first | rfl | simp [PyData.eqv]
  rw [this]
  by_cases h : a = b <;> simp [h]
theorem eqv_int (a b : Int) : PyData.eqv (.int a) (.int b) = decide (a = b) := by first | rfl | simp [PyData.eqv]
theorem sub_nil {σ' : List (Str × VD)} : ∀ x d, ([] : List (Str × VD)).lookup x = some d → σ'.lookup x = some d := fun x d e => by simp at e
theorem sub_cons {σ' r : List (Str × VD)} {x0 : Str} {d0 : VD} (h : σ'.lookup x0 = some d0) (hr : ∀ x d, r.lookup x = some d → σ'.lookup x = some d) : ∀ x d, ((x0, d0) :: r).lookup x = some d → σ'.lookup x = some d := fun x d e => by
  rw [List.lookup_cons] at e
  cases hb : x == x0 with
  | true => rw [hb] at e; cases e; rw [beq_iff_eq.mp hb]; exact h
  | false => rw [hb] at e; exact hr x d e
theorem list_le {n : Nat} (h : n < 1000) : n ≤ sizeLine := by rw [sizeLine_eq]; lia

section
variable {prog : Program} {w : World} {A : Around} {G : Gn} {X W : Addr → Prop} {env : Env} {σ : List (Str × VD)} {cs cs' : List (Addr × Cell)} {s : Shared}
/-- truth of a bool, of a subscript or a name -/
theorem Tr.boolE {e : Expr} {b : Bool} (h : Ev prog w A G X W env σ cs e (Bo b)) (he : isTrue e env (eval e env) = (do let v ← eval e env; standAt e.pos; holding [v] (truthy v))) : Tr prog w A G X W env σ cs e b := by
  refine ⟨fun s i => ?_⟩
  refine wpAny_isTrue_value (wff (h.run s i) fun v s' ⟨k, r⟩ => ?_) he
  have := Rd.bool_inv r; subst this
  exact wpAny_truthy_bool ⟨k, rfl⟩
theorem Tr.subB {v i : Expr} {pos : Pos} {b : Bool} (h : Ev prog w A G X W env σ cs (.Subscript v i pos) (Bo b)) : Tr prog w A G X W env σ cs (.Subscript v i pos) b := Tr.boolE h rfl
theorem Tr.nameB {x : Str} {pos : Pos} {b : Bool} (h : Ev prog w A G X W env σ cs (.Name x pos) (Bo b)) : Tr prog w A G X W env σ cs (.Name x pos) b := Tr.boolE h rfl
theorem Ev.len {f : Str} {p pos : Pos} {e : Expr} {ds : List PyData} (hf : Ev prog w A G X W env σ cs (.Name f p) (.is (.builtin "len"))) (he : Ev prog w A G X W env σ cs e (.dat (.list ds))) (hl : ds.length < 1000) (hs : starEach [e] env = (false, eval e env) :: starEach [] env) : Ev prog w A G X W env σ cs (.Call (.Name f p) [e] [] pos) (I ds.length) :=
  Ev.callB hf (EvL.cons he EvL.nil hs) (FnB.to (lenB (list_le hl))) hs
theorem EvS.rangeN {f : Str} {p pos : Pos} {e1 : Expr} {n : Nat} (hh : A.handled = none) (hf : Ev prog w A G X W env σ cs (.Name f p) (.is (.type "range"))) (h : Ev prog w A G X W env σ cs e1 (I n)) (hb : n < 1000) (he : starEach [e1] env = (false, eval e1 env) :: starEach [] env) :
    EvS prog w A G X W env σ cs (.Call (.Name f p) [e1] [] pos) (List.range n) (fun k => PyData.int (k : Int)) := by
  have := EvS.range1 (b := (n : Int)) (pos := pos) hh hf (EvL.cons h EvL.nil he) (by lia) (by lia) he
  exact this.conv id (by simp) fun b _ => by simp
theorem bridges_law {a : Addr} {fd : FuncData} (hG : GOk G) (hB : Bis G) (h : IsFn G a (theDef 16) fd) {z : List (Row × Bool)} (hz : z.length < 998) :
    FnG prog w G (.ref a) 3 [] [] [] [] [.dat (.list (z.map fun p => encR p.1)), .dat (.list (z.map fun p => .bool p.2))] (.dat (.list ((bridgesL z z.length).map .int))) := by
  obtain ⟨nm, q, kd, doc, pm, cv, ct, rfl⟩ := h.is
  refine FnG.of_def (σ := [("rows", .dat (.list (z.map fun p => encR p.1))), ("there", .dat (.list (z.map fun p => .bool p.2)))]) hG (h.def rfl rfl rfl) (show ([("rows" : Str), ("there" : Str)]).Nodup by decide) (fun k x hx => ?_) (bind2 fun v u => rfl) fun A L X hA => ?_
  · simp only [List.map_cons, List.map_nil, List.mem_cons, List.not_mem_nil, or_false] at hx
    rcases hx with rfl | rfl <;> exact .inl rfl
  refine Ex.step (St1.assign Ev.const_int (.inl rfl)) ?_
  refine Ex.newList (ds := [.int 0]) (EvL.cons Ev.const_int EvL.nil star_const) rfl (by decide +kernel) (.inl rfl) fun ab hab => ?_
  refine Ex.forS (fun _ => True) trivial (enc := fun k => PyData.int (k : Int)) (xs := List.range z.length) (bnd := fun k => [("i", I k)])
    (inv := fun j => [("count", I (cntAt z j)), ("bridges", .is (.ref ab)), ("rows", .dat (.list (z.map fun p => encR p.1))), ("there", .dat (.list (z.map fun p => .bool p.2)))])
    (cinv := fun j => [(ab, .lst ((bridgesL z j).map .int))]) (EvS.rangeN hA.hh (Ev.bi hG hB.range') (Ev.conv (Ev.len (ds := z.map fun p => encR p.1) (Ev.bi hG hB.len') (Ev.name (by kernel_rfl)) (by rw [List.length_map]; lia) star_name) (by rw [List.length_map])) (by lia) star_call) ?_ ?_ ?_ ?_ ?_ ?_
  · intro k _
    exact Tgt.name (.inl rfl)
  · have h0 : cntAt z 0 = 0 := by simp [cntAt]
    rw [h0]
    exact sub_cons (by kernel_rfl) (sub_cons (by kernel_rfl) (sub_cons (by kernel_rfl) (sub_cons (by kernel_rfl) sub_nil)))
  · exact List.Sublist.refl _
  · intro j; rfl
  · intro j k hk' _ X'
    obtain ⟨hj, e⟩ := List.getElem?_eq_some_iff.mp hk'
    rw [List.length_range] at hj
    rw [List.getElem_range] at e
    subst e
    obtain ⟨p, hp⟩ : ∃ p, z[j]? = some p := ⟨z[j], by simp [hj]⟩
    have hpm : p ∈ z := List.mem_of_getElem? hp
    have hrow : (z.map fun p => encR p.1)[((j : Int)).toNat]? = some (.tuple [.str p.1.1, .str p.1.2]) := by simp [hp, encR]
    have hth : (z.map fun p => PyData.bool p.2)[((j : Int)).toNat]? = some (.bool p.2) := by simp [hp]
    have hun := hA.un
    refine Ex.ite (c := decide (p.1.2 = "")) (Q1 := fun fd W' σ' cs' => fd = .next ∧ W' = Wn (callW (fnOf (theDef 16) nm q kd doc pm cv ct) L a []) ab ∧ cs' = [(ab, Cell.lst ((bridgesL z j).map .int))] ∧
      ∀ x d, ([("i", I j), ("count", I (cntAt z (j + 1))), ("bridges", .is (.ref ab)), ("rows", .dat (.list (z.map fun p => encR p.1))), ("there", .dat (.list (z.map fun p => .bool p.2)))] : List (Str × VD)).lookup x = some d → σ'.lookup x = some d) ?_ (fun hc => ?_) (fun hc => ?_) (fun W' σ' cs' hq => ?_) (fun fd _ _ _ ne hq => absurd hq.1 ne)
    · refine Tr.conv (Tr.cmp (x := S p.1.2) (y := S "") (Ev.sub (x := .dat (.tuple [.str p.1.1, .str p.1.2])) (y := I 1) (Ev.sub (x := .dat (.list (z.map fun p => encR p.1))) (y := I j) (Ev.name (by kernel_rfl)) (Ev.name (by kernel_rfl)) (itL (by lia) (by lia) hrow)) Ev.const_int (itT (by decide) (by decide) (j := 1) rfl rfl)) Ev.const_str (eqD ?_)) (eqv_str _ _)
      have e1 : (PyData.str p.1.2).depth = 0 := rfl
      lia
    · have hc' : p.1.2 = "" := by simpa using hc
      have e : cntAt z (j + 1) = cntAt z j - 1 := by rw [cntAt_succ hp, stepC, if_pos hc']; lia
      refine Ex.step (St1.aug (a := I (cntAt z j)) (b := I 1) (d := I (cntAt z j - 1)) (by kernel_rfl) Ev.const_int isubI (.inl rfl)) (Ex.nil ⟨rfl, rfl, rfl, ?_⟩)
      rw [e]
      exact sub_cons (by kernel_rfl) (sub_cons (by kernel_rfl) (sub_cons (by kernel_rfl) (sub_cons (by kernel_rfl) (sub_cons (by kernel_rfl) sub_nil))))
    · have hc' : ¬ p.1.2 = "" := by simpa using hc
      cases hb : p.2 with
      | true =>
        have e : cntAt z (j + 1) = cntAt z j := by rw [cntAt_succ hp, stepC, if_neg hc', if_pos hb]; lia
        refine Ex.skip ?_ (Ex.nil ⟨rfl, rfl, rfl, ?_⟩)
        · refine Tr.conv (Tr.not (Tr.subB (b := p.2) (Ev.sub (x := .dat (.list (z.map fun p => .bool p.2))) (y := I j) (Ev.name (by kernel_rfl)) (Ev.name (by kernel_rfl)) (itL (by lia) (by lia) hth)))) (by rw [hb]; rfl)
        · rw [e]; exact fun _ _ e => e
      | false =>
        have e : cntAt z (j + 1) = cntAt z j + 1 := by rw [cntAt_succ hp, stepC, if_neg hc', if_neg (by rw [hb]; simp)]
        refine Ex.thenLast ?_ ?_
        · refine Tr.conv (Tr.not (Tr.subB (b := p.2) (Ev.sub (x := .dat (.list (z.map fun p => .bool p.2))) (y := I j) (Ev.name (by kernel_rfl)) (Ev.name (by kernel_rfl)) (itL (by lia) (by lia) hth)))) (by rw [hb]; rfl)
        · refine Ex.step (St1.aug (a := I (cntAt z j)) (b := I 1) (d := I (cntAt z j + 1)) (by kernel_rfl) Ev.const_int iaddI (.inl rfl)) (Ex.nil ⟨rfl, rfl, rfl, ?_⟩)
          rw [e]
          exact sub_cons (by kernel_rfl) (sub_cons (by kernel_rfl) (sub_cons (by kernel_rfl) (sub_cons (by kernel_rfl) (sub_cons (by kernel_rfl) sub_nil))))
    · obtain ⟨_, rfl, rfl, hs⟩ := hq
      have h1 := hs "count" _ rfl
      have h2 := hs "bridges" _ rfl
      have h5 := hs "i" _ rfl
      have hsub : ∀ x d, ([("count", I (cntAt z (j + 1))), ("bridges", .is (.ref ab)), ("rows", .dat (.list (z.map fun p => encR p.1))), ("there", .dat (.list (z.map fun p => .bool p.2)))] : List (Str × VD)).lookup x = some d → σ'.lookup x = some d := sub_cons h1 (sub_cons h2 (sub_cons (hs "rows" _ rfl) (sub_cons (hs "there" _ rfl) sub_nil)))
      have e1 : (PyData.int (cntAt z (j + 1))).depth = 0 := rfl
      by_cases hc : cntAt z (j + 1) = 0
      · refine Ex.thenLast ?_ ?_
        · exact Tr.conv (Tr.cmp (x := I (cntAt z (j + 1))) (y := I 0) (Ev.name h1) Ev.const_int (eqD (by lia))) (by rw [eqv_int]; exact decide_eq_true hc)
        · refine Ex.step (St1.append (d := .int ((j : Int) + 1)) h2 (Ev.bin (x := I j) (y := I 1) (Ev.name h5) Ev.const_int addI) .head (.inr rfl) ?_) (Ex.nil (.inl ⟨.inl rfl, trivial, rfl, hsub, ?_⟩))
          · rw [List.length_map]
            have : (bridgesL z j).length ≤ j + 1 := by
              unfold bridgesL
              rw [List.length_cons, List.length_map]
              have := List.length_filter_le (fun i => decide (cntAt z (i + 1) = 0)) (List.range j)
              rw [List.length_range] at this
              lia
            exact list_le (by lia)
          · rw [bridgesL_succ, if_pos hc, List.map_append]; exact List.Sublist.refl _
      · refine Ex.skip ?_ (Ex.nil (.inl ⟨.inl rfl, trivial, rfl, hsub, ?_⟩))
        · exact Tr.conv (Tr.cmp (x := I (cntAt z (j + 1))) (y := I 0) (Ev.name h1) Ev.const_int (eqD (by lia))) (by rw [eqv_int]; exact decide_eq_false hc)
        · rw [bridgesL_succ, if_neg hc, List.append_nil]; exact List.Sublist.refl _
  · intro _
    refine Ex.retCell (ds := (bridgesL z (List.range z.length).length).map .int) (by kernel_rfl) (.head _) hab ⟨Or.inl ?_, no_cs⟩
    rw [List.length_range]
end
end Mine
set_option maxRecDepth 100000
set_option maxHeartbeats 2000000
namespace Mine
open PySem PySem.W PyProof.Rows PySem.Calls

/-! _law_least_first -/
noncomputable def lamPosOf : List Stmt → Pos
  | [.Return (some (.Call _ _ [kw] _)) _] => match kw.value with
    | .Lambda _ _ _ p => p
    | _ => default
  | _ => default
/-- a def whose lambda's code is cached in the table t -/
structure HasTb (G : Gn) (fd : FuncData) (p : Pos) (t : Tb) : Prop where
  mem : t ∈ G.tb
  code : fd.code = .ref t.c
  pos : t.pos = p
  qual : t.qual = fd.qualname ++ ".<locals>." ++ "<lambda>"
section
variable {prog : Program} {w : World} {A : Around} {G : Gn} {X W : Addr → Prop} {env : Env} {σ : List (Str × VD)} {cs cs' : List (Addr × Cell)} {s : Shared}
theorem least_law {a ar : Addr} {fd : FuncData} {t : Tb} (hG : GLm G) (hB : Bis G) (h : IsFn G a (theDef 17) fd) (hT : HasTb G fd (lamPosOf (defBody (theDef 17))) t) {rows : List Row} {n : Nat} {kvs : List (Str × PyData)} {key : Row → PyData} {rk : Row → Nat}
    (hv : ∀ r, r ∈ rows → ∃ l1 l0, kvs.lookup r.2 = some (.list l1) ∧ kvs.lookup r.1 = some (.list l0) ∧ key r = .tuple [.list l1, .list l0]) (h64 : rows.length < 64) (hn : (rows.map rk).Nodup)
    (hlt : ∀ a b, a ∈ rows → b ∈ rows → rk a ≠ rk b → ltd (key a) (key b) = some (decide (rk a < rk b))) (hd : ∀ a, a ∈ rows → (key a).depth ≤ 16) :
    FnG prog w G (.ref a) 8 [] [(ar, .tab prog w n kvs)] [(ar, .tab prog w n kvs)] [] [.dat (.list (rows.map encR)), .is (.ref ar)] (.dat (.list ((sortBy rk rows).map encR))) := by
  obtain ⟨nm, q, kd, doc, pm, cv, ct, rfl⟩ := h.is
  have hcv : cv = .ref t.c := hT.code
  subst hcv
  refine FnG.of_def (σ := [("rows", .dat (.list (rows.map encR))), ("ranks", .is (.ref ar))]) hG.toGOk (h.def rfl rfl rfl) (show ([("rows" : Str), ("ranks" : Str)]).Nodup by decide) (fun k x hx => ?_) (bind2 fun v u => rfl) fun A L X hA => ?_
  · simp only [List.map_cons, List.map_nil, List.mem_cons, List.not_mem_nil, or_false] at hx
    rcases hx with rfl | rfl
    · exact .inl rfl
    · exact .inr ⟨rfl, rfl⟩
  refine Ex.ret (d := .dat (.list ((sortBy rk rows).map encR))) ?_ ⟨Or.inl (by with_reducible rfl), fun p hp => hp⟩
  refine Ev.sortedK (xs := rows) (enc := encR) (key := key) (rk := rk) (κ := tuples' true) (x := "row") (σc := [("ranks", .is (.ref ar))]) (clos := [("ranks", L + 1)]) (n := 3) (t := t) (Ev.bi hG.toGOk hB.sorted') (Ev.name (by kernel_rfl)) hG hT.mem rfl hT.pos hT.qual rfl rfl rfl rfl rfl ?_ rfl (fun _ _ _ _ => rfl) ?_ ?_ hA ?_ ?_ h64 hn hlt hd star_name
  · decide
  · exact fun n c e => ⟨n, rfl, e⟩
  · intro y d e
    rw [List.lookup_cons] at e
    cases hb : y == "ranks" with
    | false => rw [hb] at e; cases e
    | true =>
      rw [hb] at e; cases e
      have hy := beq_iff_eq.mp hb
      subst hy
      exact ⟨by kernel_rfl, rfl, rfl, by decide, L + 1, rfl, rfl⟩
  · intro A C X' g c r hA' hr
    obtain ⟨l1, l0, e1, e0, ek⟩ := hv r hr
    rw [ek]
    refine EvD.tuple _ ?_ (by show 2 ≤ 1000; decide)
    refine EvD.cons (Ev.subTab (k := r.2) (by kernel_rfl) (.head _) (Ev.sub (x := .dat (.tuple [.str r.1, .str r.2])) (y := I 1) (Ev.name (by kernel_rfl)) Ev.const_int (itT (by decide) (by decide) (j := 1) rfl rfl)) e1) ?_ star_sub
    exact EvD.cons (Ev.subTab (k := r.1) (by kernel_rfl) (.head _) (Ev.sub (x := .dat (.tuple [.str r.1, .str r.2])) (y := I 0) (Ev.name (by kernel_rfl)) Ev.const_int (itT (by decide) (by decide) (j := 0) rfl rfl)) e0) EvD.nil star_sub
  · refine .tup "list" _ (.inr rfl) fun d hd => ?_
    obtain ⟨r, hr, rfl⟩ := List.mem_map.mp hd
    obtain ⟨l1, l0, e1, e0, ek⟩ := hv r hr
    exact ⟨_, _, ek, nofun, fun _ => ⟨_, rfl⟩⟩
end
end Mine
set_option maxRecDepth 100000
set_option maxHeartbeats 2000000
namespace Mine
open PySem PySem.W PyProof.Rows PySem.Calls

/-! the machine of the regexes -/
theorem runFor_done : ∀ (n : Nat) (m : Sre.M), m.outcome.isSome = true → m.runFor n = m
  | 0, _, _ => rfl
  | n + 1, m, h => by unfold Sre.M.runFor; rw [if_pos h]
theorem runFor_add : ∀ (a b : Nat) (m : Sre.M), m.runFor (a + b) = (m.runFor a).runFor b
  | 0, b, m => by rw [Nat.zero_add]; rfl
  | a + 1, b, m => by
    by_cases h : m.outcome.isSome = true
    · rw [runFor_done _ _ h, runFor_done _ _ h, runFor_done _ _ h]
    · rw [Nat.add_right_comm]
      have e1 : m.runFor (a + b + 1) = m.step.runFor (a + b) := by show (if _ then _ else _) = _; rw [if_neg h]
      have e2 : m.runFor (a + 1) = m.step.runFor a := by show (if _ then _ else _) = _; rw [if_neg h]
      rw [e1, e2, runFor_add a b]
section
variable {M : Model} {A : Around} {E : Value → Shared → Prop} {s : Shared}
theorem drive_wp : ∀ (n turns : Nat) (m : Sre.M) {Q : Sre.M → Shared → Prop}, n < turns → (m.runFor (4 * (n + 1))).outcome.isSome = true → Q (m.runFor (4 * (n + 1))) s → wpAny M A (Builtin.Re.reDrive turns m) Q E s
  | n, 0, _, _, h, _, _ => absurd h (Nat.not_lt_zero _)
  | n, turns + 1, m, Q, h, ho, hq => by
    show wpAny M A (if (m.runFor 4).outcome.isSome = true then pure (m.runFor 4) else do rule "sre.turn"; Builtin.Re.reDrive turns (m.runFor 4)) Q E s
    by_cases h4 : (m.runFor 4).outcome.isSome = true
    · rw [if_pos h4]
      have e : m.runFor (4 * (n + 1)) = m.runFor 4 := by
        rw [show 4 * (n + 1) = 4 + 4 * n by lia, runFor_add, runFor_done _ _ h4]
      rw [e] at hq
      exact wpAny_pure hq
    · rw [if_neg h4]
      refine wpAny_bind (wpAny_rule ?_)
      cases n with
      | zero => exact absurd ho h4
      | succ n =>
        have e : m.runFor (4 * (n + 1 + 1)) = (m.runFor 4).runFor (4 * (n + 1)) := by
          rw [← runFor_add, show 4 * (n + 1 + 1) = 4 + 4 * (n + 1) by lia]
        rw [e] at ho hq
        exact drive_wp n turns (m.runFor 4) (by lia) ho hq
theorem forIn_quiet {α : Type} {f : α → PUnit → Sem (ForInStep PUnit)} (hf : ∀ a (Q : ForInStep PUnit → Shared → Prop), Q (.yield ⟨⟩) s → wpAny M A (f a ⟨⟩) Q E s) : ∀ (l : List α) {Q : PUnit → Shared → Prop}, Q ⟨⟩ s → wpAny M A (forIn l PUnit.unit f) Q E s
  | [], Q, h => by rw [List.forIn_nil]; exact wpAny_pure h
  | a :: l, Q, h => by
    rw [List.forIn_cons]
    exact wpAny_bind (hf a _ (forIn_quiet hf l h))
theorem run_wp (n : Nat) (m : Sre.M) {Q : Option Sre.M → Shared → Prop} (hn : n < 2 ^ 64) (h : (∃ q, (m.runFor (4 * (n + 1))).outcome = some .matched ∧ q = some (m.runFor (4 * (n + 1))) ∧ Q q s) ∨ ((m.runFor (4 * (n + 1))).outcome = some .failed ∧ Q none s)) : wpAny M A (Builtin.Re.reRunToEnd m) Q E s := by
  unfold Builtin.Re.reRunToEnd
  have ho : (m.runFor (4 * (n + 1))).outcome.isSome = true := by
    rcases h with ⟨q, h, _⟩ | ⟨h, _⟩ <;> rw [h] <;> rfl
  refine wpAny_bind (drive_wp n _ m hn ho ?_)
  refine wpAny_bind (forIn_quiet (fun i Q hq => ?_) _ ?_)
  · split
    · exact wpAny_bind (wpAny_rule (wpAny_pure hq))
    · exact wpAny_pure hq
  · rcases h with ⟨q, h, rfl, hq⟩ | ⟨h, hq⟩
    · rw [h]; exact wpAny_pure hq
    · rw [h]; exact wpAny_pure hq
end

/-- a compiled pattern of the ground -/
structure PatAt (G : Gn) (re : Addr) (code : Array Nat) (groups : Nat) : Prop where
  obj : ∃ o vs ca oc its n, G.B.get? re = some o ∧ o.cls = .type "re.Pattern" ∧ o.dict = none ∧ o.data = .fields vs ∧ Builtin.Re.reRawNat (vs.getD 6 .none) = 0 ∧ Builtin.Re.reRawNat (vs.getD 2 .none) = groups ∧
    vs.getD 5 .none = .ref ca ∧ G.B.get? ca = some oc ∧ oc.data = .seq its n ∧ (its.map Builtin.Re.reRawOf).map (·.toNat) = code

section
variable {prog : Program} {w : World} {A : Around} {G : Gn} {X W : Addr → Prop} {env : Env} {σ : List (Str × VD)} {cs cs' : List (Addr × Cell)} {s : Shared} {E : Value → Shared → Prop}
theorem target_wp {id f : String} {re : Addr} {code : Array Nat} {groups : Nat} {x : Str} {t : Tok} {Q : Builtin.Re.ReTarget → Shared → Prop} (hp : PatAt G re code groups) (g : Gd G s.heap) (hx : x.length < 1000)
    (hq : Q { pattern := .ref re, string := .str x t, code, text := x.cps, kind := 0, groups, pos := 0, lim := x.length } s) :
    wpAny (model prog w) A (Builtin.Re.reTarget id f ⟨[.ref re, .str x t], []⟩) Q E s := by
  obtain ⟨o, vs, ca, oc, its, n, e1, e2, e3, e4, e5, e6, e7, e8, e9, e10⟩ := hp.obj
  unfold Builtin.Re.reTarget
  dsimp only
  have hn : Builtin.Re.reNamed id f ["string", "pos", "endpos"] 1 [.str x t] [] = pure [some (.str x t), none, none] := by
    first | rfl | (unfold Builtin.Re.reNamed; simp)
  refine wpAny_bind (wpAny_of_eq hn ?_)
  dsimp only
  refine wpAny_bind (wpAny_pure (wpAny_bind (wpAny_pure ?_)))
  refine wpAny_bind (wpAny_fieldsOf (g.fr.keep _ _ e1) e4 ?_)
  refine wpAny_bind (wpAny_of_eq (show Builtin.Re.reTextOf (.str x t) = pure (x.cps, 0) from rfl) ?_)
  dsimp only
  rw [e5]
  rw [if_neg (by decide), if_neg (by decide)]
  refine wpAny_bind (wpAny_of_eq (show Builtin.Re.reNoCollectionInside (.str x t) 0 = pure () from rfl) ?_)
  rw [e7]
  refine wpAny_bind (m := Builtin.Re.reRawItems (.ref ca)) ?_
  · unfold Builtin.Re.reRawItems
    refine wpAny_bind (wpAny_seqItems (g.fr.keep _ _ e8) e9 (wpAny_pure ?_))
    refine wpAny_pure ?_
    have hl : x.length = x.cps.size := rfl
    rw [e6]
    have e11 : (Array.map (fun x => x.toNat) (Array.map Builtin.Re.reRawOf ((some its).getD #[]))) = code := e10
    have e12 : min ((2 : Int) ^ 63 - 1).toNat x.cps.size = x.length := by
      have e : ((2 : Int) ^ 63 - 1).toNat = 9223372036854775807 := by decide
      rw [e, hl]; lia
    rw [e11, e12]
    have e13 : min (0 : Int).toNat x.cps.size = 0 := by simp
    first
      | exact hq
      | (rw [e13]; exact hq)

theorem slot_re_search : Slot "re.Pattern" "search" "re.Pattern.search" :=
  .of (owner := "re.Pattern") (n := "search") (by rw [typeLookup_type, builtinLookup_eq_fast]; kernel_rfl) (by decide +kernel) (by decide +kernel) (by decide +kernel)
    (by first | exact .inl (by decide +kernel) | exact .inr (by decide +kernel)) (by rw [isSubtype_type]; kernel_rfl)
theorem entry_re_search : entryFor table "re.Pattern.search" = some Builtin.«re.Pattern.search» := entryFor_of_fast (by kernel_rfl)
theorem type_re_search : typeOf (.builtin "re.Pattern.search") = pure (.type "method_descriptor") := by show builtinType _ = _; rw [builtinType_eq_fast]; kernel_rfl
theorem args_re_search (a b : Value) : argsOk "re.Pattern.search" ⟨[a, b], []⟩ := by unfold argsOk; kernel_rfl
end
end Mine
set_option maxRecDepth 100000
set_option maxHeartbeats 2000000
namespace Mine
open PySem PySem.W PyProof.Rows PySem.Calls

theorem plainAttrs_re : PlainAttrs "re.Pattern" :=
  ⟨⟨"object.__getattribute__", by rw [typeLookup_type, builtinLookup_eq_fast]; kernel_rfl, by decide +kernel⟩, by rw [typeLookup_type, builtinLookup_eq_fast]; kernel_rfl⟩
/-- a text in which the search finds nothing, at once -/
noncomputable def noFind (code : Array Nat) (groups : Nat) (x : Str) : Bool := match ((Sre.forSearch code x.cps groups 0 x.length false).runFor 4).outcome with
  | some .failed => true
  | _ => false
section
variable {prog : Program} {w : World} {A : Around} {G : Gn} {X W : Addr → Prop} {env : Env} {σ : List (Str × VD)} {cs cs' : List (Addr × Cell)} {s : Shared} {E : Value → Shared → Prop}
theorem call_search {re : Addr} {code : Array Nat} {groups : Nat} {x : Str} {t : Tok} {Q : Value → Shared → Prop} (hp : PatAt G re code groups) (g : Gd G s.heap) (hx : x.length < 1000) (hf : noFind code groups x = true) (hq : Q .none s) :
    wpAny (model prog w) A (call (.builtin "re.Pattern.search") [.ref re, .str x t]) Q E s := by
  obtain ⟨o, vs, ca, oc, its, n, e1, e2, e3, e4, _⟩ := hp.obj
  refine wpAny_call_entry slot_re_search ⟨o, g.fr.keep _ _ e1, e2⟩ entry_re_search ?_ (args_re_search _ _)
  unfold Builtin.«re.Pattern.search»
  refine wpAny_bind (target_wp hp g hx ?_)
  unfold Builtin.Re.reAnswer
  have h4 : ((Sre.forSearch code x.cps groups 0 x.length false).runFor 4).outcome = some .failed := by
    unfold noFind at hf
    cases ho : ((Sre.forSearch code x.cps groups 0 x.length false).runFor 4).outcome with
    | none => rw [ho] at hf; cases hf
    | some r => cases r <;> first | rfl | (rw [ho] at hf; cases hf)
  refine wpAny_bind (run_wp 0 _ (by decide) (.inr ⟨h4, ?_⟩))
  exact wpAny_pure ⟨_, rfl, hq⟩
/-- regex.search(e) finds nothing -/
theorem Tr.search {r : Str} {e : Expr} {pr apos pos : Pos} {re : Addr} {code : Array Nat} {groups : Nat} {x : Str} (hp : PatAt G re code groups) (hr : Ev prog w A G X W env σ cs (.Name r pr) (.is (.ref re))) (he : Ev prog w A G X W env σ cs e (S x)) (hx : x.length < 1000) (hf : noFind code groups x = true)
    (hs : starEach [e] env = [(false, eval e env)]) (hbase : attributeBase (.Name r pr) "search" env (eval (.Name r pr) env) = eval (.Name r pr) env) (hline : (apos.endLine == pos.line) = true) (hit : isTrue (.Call (.Attribute (.Name r pr) "search" apos) [e] [] pos) env (eval (.Call (.Attribute (.Name r pr) "search" apos) [e] [] pos) env) = (do let v ← eval (.Call (.Attribute (.Name r pr) "search" apos) [e] [] pos) env; standAt (Expr.Call (.Attribute (.Name r pr) "search" apos) [e] [] pos).pos; holding [v] (truthy v))) :
    Tr prog w A G X W env σ cs (.Call (.Attribute (.Name r pr) "search" apos) [e] [] pos) false := by
  refine ⟨fun s i => ?_⟩
  refine wpAny_isTrue_value (Call_method1 hbase hs hline (wff (hr.run s i) fun v s₁ ⟨k, r⟩ => ?_)) hit
  have r' : v = .ref re := r
  subst r'
  have i1 := i.quiet k
  obtain ⟨o, vs, ca, oc, its, n, e1, e2, e3, e4, _⟩ := hp.obj
  have e1' := i1.gd.fr.keep _ _ e1
  refine ⟨"re.Pattern", _, plainAttrs_re, slot_re_search, type_re_search, ⟨o, e1', e2⟩, fun b hb => by cases hb; exact ⟨o, e1', e3⟩, ?_⟩
  refine Calls.callWith_builtin rfl (Calls.evalArgs_plain (Calls.spliced_cons (wff (he.run s₁ i1) fun v s₂ ⟨k2, r2⟩ => Calls.spliced_nil ?_)))
  obtain ⟨⟨t, rfl⟩, _⟩ := Rd.str_inv r2
  exact call_search hp (i1.quiet k2).gd hx hf (truthy_none ⟨k.trans k2, rfl⟩)

/-- type(e) is T -/
theorem Tr.typeIs {f g : Str} {pf pg pos cpos : Pos} {e : Expr} {x : Str} (hf : Ev prog w A G X W env σ cs (.Name f pf) (.is (.type "type"))) (hg : Ev prog w A G X W env σ cs (.Name g pg) (.is (.type "str"))) (he : Ev prog w A G X W env σ cs e (S x)) (hs : starEach [e] env = (false, eval e env) :: starEach [] env) :
    Tr prog w A G X W env σ cs (.Compare (.Call (.Name f pf) [e] [] cpos) [.Is] [.Name g pg] pos) true := by
  refine Tr.cmp (x := .is (.type "str")) (y := .is (.type "str")) (Ev.callT hf (EvL.cons he EvL.nil hs) ?_ hs) hg ?_
  · intro s vs i r
    obtain _ | ⟨r, _ | _⟩ := r
    obtain ⟨⟨t, rfl⟩, _⟩ := Rd.str_inv r
    exact call_type_of (typeIs_str s x t) (by decide) ⟨QS.refl s, rfl⟩
  · intro s a b _ ha hb
    have ha' : a = .type "str" := ha
    have hb' : b = .type "str" := hb
    subst ha' hb'
    exact wpAny_is_self (by decide) ⟨QS.refl s, .bool _⟩

/-- _convert_string_type -/
theorem convert_law {a reN reV hd : Addr} {codeN codeV : Array Nat} {gN gV : Nat} {fd : FuncData} (hG : GOk G) (hB : Bis G) (h : IsFn G a (theMeth 1) fd) (hkd : fd.kwdefaults = .none) (hN : G.mg "_name_disallowed_re" = some (.ref reN)) (hV : G.mg "_value_disallowed_re" = some (.ref reV)) (pN : PatAt G reN codeN gN) (pV : PatAt G reV codeV gV)
    {x : Str} {b : Bool} (hx : x.length < 1000) (hf : (if b then noFind codeN gN x else noFind codeV gV x) = true) : FnG prog w G (.ref a) 3 [] cs cs [("name", .bool b)] [.hdr hd, S x] (S x) := by
  obtain ⟨nm, q, kd, doc, pm, cv, ct, rfl⟩ := h.is
  have hkd' : kd = .none := hkd
  subst hkd'
  refine FnG.of_def (σ := [("self", .hdr hd), ("value", S x), ("name", Bo b)]) hG (h.def rfl rfl rfl) (show ([("self" : Str), ("value" : Str), ("name" : Str)]).Nodup by decide) (fun k x hx => ?_) ?_ fun A L X hA => ?_
  · simp only [List.map_cons, List.map_nil, List.mem_cons, List.not_mem_nil, or_false] at hx
    rcases hx with rfl | rfl | rfl <;> exact .inl rfl
  · intro A X s vs i r
    obtain _ | ⟨r1, _ | ⟨r2, _ | _⟩⟩ := r
    rename_i v u
    have e : ∀ v u : Value, bindArgs (fnOf (theMeth 1) nm q .none doc pm cv ct) ⟨[v, u], [("name", .bool b)]⟩ = (pure [("self", v), ("value", u), ("name", .bool b)] : Sem (List (Str × Value))) := fun _ _ => by kernel_rfl
    rw [e]
    exact wpAny_pure ⟨QS.refl s, rfl, .cons r1 (.cons r2 (.cons (.bool b) .nil))⟩
  refine Ex.thenRet ?_ ?_
  · exact Tr.typeIs (x := x) (Ev.bi hG hB.type') (Ev.bi hG hB.str') (Ev.name (by kernel_rfl)) star_name
  refine Ex.step (St1.assign (d := if b then .is (.ref reN) else .is (.ref reV)) (Ev.ifExp (c := b) (Tr.nameB (Ev.name (by kernel_rfl))) (fun _ => Ev.global hG hN rfl) (fun _ => Ev.global hG hV rfl)) (.inl rfl)) ?_
  refine Ex.skip ?_ (Ex.ret (Ev.name (by kernel_rfl)) ⟨nofun, Or.inl rfl, fun p hp => hp⟩)
  cases b with
  | true => exact Tr.search pN (Ev.name (by kernel_rfl)) (Ev.name (by kernel_rfl)) hx hf rfl rfl rfl rfl
  | false => exact Tr.search pV (Ev.name (by kernel_rfl)) (Ev.name (by kernel_rfl)) hx hf rfl rfl rfl rfl
end
end Mine
set_option maxRecDepth 100000
set_option maxHeartbeats 2000000
namespace Mine
open PySem PySem.W PyProof.Rows PySem.Calls

section
variable {prog : Program} {w : World} {A : Around} {G : Gn} {X W : Addr → Prop} {env : Env} {σ : List (Str × VD)} {cs cs' : List (Addr × Cell)} {s : Shared} {E : Value → Shared → Prop}

/-! going through a list of one's own, in a comprehension -/
noncomputable def SrcJ (prog : Program) (w : World) (A : Around) (G : Gn) (X : Addr → Prop) {α : Type} (xs : List α) (enc : α → PyData) (v : Value) (s : Shared) : Prop :=
  xs.length ≤ sizeLine ∧ ∀ (Q : Value → Shared → Prop), (∀ oI fp P St, Walks prog w A s.heap.objs.size fp [s.heap.objs.size] xs.length P St → (∀ b ∈ fp, b < (s.heap.push oI).objs.size) → (∀ b ∈ fp, ¬ G.jk b) → St 0 (s.heap.push oI) →
    (∀ j h, St j h → ∃ o, h.get? s.heap.objs.size = some o ∧ NotCode o ∧ GoOk o) → (∀ j v, P j v → ∃ a, xs[j]? = some a ∧ Rd X s.heap v (enc a)) → Q (.ref s.heap.objs.size) { s with heap := s.heap.push oI }) → wpAny (model prog w) A (pyIter v) Q FF s
structure EvJ (prog : Program) (w : World) (A : Around) (G : Gn) (X W : Addr → Prop) (env : Env) (σ : List (Str × VD)) (cs : List (Addr × Cell)) {α : Type} (e : Expr) (xs : List α) (enc : α → PyData) : Prop where
  run : ∀ s, In G X W env σ cs s → wpAny (model prog w) A (eval e env) (fun v s' => QQ G s s' ∧ SrcJ prog w A G (Or2 X W) xs enc v s') FF s
theorem SrcJ.list {α : Type} {X : Addr → Prop} {xs : List α} {enc : α → PyData} {a : Addr} {vs : Array Value} {n : Nat} (hh : A.handled = none) (i : Ok G X s) (e : s.heap.get? a = some { cls := .type "list", data := .seq vs n }) (ja : ¬ G.jk a) (rl : RdL X s.heap vs.toList (xs.map enc)) (hl : xs.length ≤ sizeLine) : SrcJ prog w A G X xs enc (.ref a) s := by
  refine ⟨hl, fun Q h => ?_⟩
  have hsz : vs.size = xs.length := by rw [Rd.size rl, List.length_map]
  have hL : s.heap.IsList a vs := ⟨_, e, rfl, n, rfl⟩
  have hlt : a < s.heap.objs.size := Heap.lt_size e
  refine wpAny_pyIter_list hL (h _ [s.heap.objs.size, a] (fun j v => vs[j]? = some v) (fun j h => h.IsListIter s.heap.objs.size a j ∧ h.IsList a vs) ?_ (fun b hb => ?_) (fun b hb => ?_) ⟨⟨_, Heap.get?_push_size _ rfl, rfl, rfl⟩, hL.push _⟩ (fun j h' st => ?_) fun j u hu => ?_)
  · have := Walks.list (prog := prog) (w := w) (A := A) hh s.heap.objs.size a (Nat.ne_of_lt hlt) vs
    rw [hsz] at this
    exact this
  · rw [Heap.size_push]
    rcases List.mem_cons.mp hb with rfl | hb
    · exact Nat.lt_succ_self _
    · rw [List.mem_singleton.mp hb]; exact Nat.lt_succ_of_lt hlt
  · rcases List.mem_cons.mp hb with rfl | hb
    · exact fun j => i.fresh (i.jk _ j)
    · rw [List.mem_singleton.mp hb]; exact ja
  · obtain ⟨⟨o, q, q2, q3⟩, _⟩ := st
    refine ⟨o, q, fun fs x t e => ?_, _, q2, by decide⟩
    rw [q3] at e; cases e; simp
  · obtain ⟨d, hd, rd⟩ := rl.getL (by simpa using hu)
    rw [List.getElem?_map] at hd
    cases hx : xs[j]? with
    | none => rw [hx] at hd; cases hd
    | some a => rw [hx] at hd; cases hd; exact ⟨a, rfl, rd⟩
theorem EvJ.cell {α : Type} {e : Expr} {a : Addr} {xs : List α} {enc : α → PyData} (hh : A.handled = none) (h : Ev prog w A G X W env σ cs e (.is (.ref a))) (hm : (a, Cell.lst (xs.map enc)) ∈ cs) (hl : xs.length ≤ sizeLine) : EvJ prog w A G X W env σ cs e xs enc :=
  ⟨fun s i => wff (h.run s i) fun v s' ⟨k, r⟩ => ⟨k, by
    have r' : v = .ref a := r
    subst r'
    have i' := i.quiet k
    obtain ⟨vs, n, e, p⟩ := i'.cell hm
    exact SrcJ.list hh i'.ok e (i'.ce _ hm).1.2 p hl⟩⟩
theorem Ev.compJ {α : Type} {elt iter : Expr} {x : Str} {px : Pos} {ifs : List Expr} {scope : Scope} {cl : List (Str × Addr)} {pos : Pos} {xs : List α} {enc : α → PyData} {p : α → Bool} {f : α → PyData} {σc : List (Str × VD)}
    (hclos : closureFor scope env = pure cl) (hcell : ∀ y ∈ scope.names, y.2 ≠ .cell) (hkind : scope.kind = .function) (hnames : ∀ y ∈ scope.names, y.2 = .local → scope.names.lookup y.1 = some .local) (hx : scope.names.lookup x = some .local)
    (hcl : ∀ n c, cl.lookup n = some c → ∃ n', n' = n ∧ env.cells.lookup n' = some c) (caps : Caps env cl (relabel scope env).names σ σc) (hit : EvJ prog w A G X W env σ cs iter xs enc)
    (htest : ∀ C X' a, a ∈ xs → TrL prog w A G X' (Wn W C) (compEnvC scope cl C env) ((x, .dat (enc a)) :: σc) cs ifs (p a))
    (helt : ∀ C X' a, a ∈ xs → p a = true → Ev prog w A G X' (Wn W C) (compEnvC scope cl C env) ((x, .dat (enc a)) :: σc) cs elt (.dat (f a)))
    (hs : ∀ x, foldedSetIterable iter env x = pure x := by intro _; rfl) :
    Ev prog w A G X W env σ cs (.ListComp elt [⟨.Name x px, iter, ifs, 0⟩] scope pos) (.dat (.list ((xs.filter p).map f))) := by
  refine ⟨fun s i => ?_⟩
  rw [eval_ListComp]
  refine wpAny_comprehension_free (use := none) rfl hs hclos hkind hnames (wff (hit.run s i) fun xv s₁ ⟨k, hl, hsrc⟩ => wff (hsrc _ ?_) fun _ _ q => q)
  intro oI fp P St K hfp fpj hst hIo hP
  refine comp_core (i.quiet k) K hl hfp fpj hst (fun j h st => let ⟨o, e, n, _⟩ := hIo j h st; ⟨o, e, n⟩) hP hcell hkind hx hcl caps htest helt fun D C s' m q hD hC hDC hn r => ?_
  obtain ⟨nB, nj, nX⟩ := (i.quiet k).noB hC
  refine ⟨m, hn, fun h' hs' => ⟨k.trans ?_, ?_⟩⟩
  · obtain ⟨o, es, ep, ho, hd, _⟩ := hn
    exact q.drop hs'.extBut hC ho (.of fun _ => by rw [hd]; nofun) nB nj
  · exact Rd.weak (Rd.up r fun b o nb e => hs'.extBut b o (fun z => nb (.inr (.inr z))) e) fun b z => z.imp id .inl

/-! self._headers -/
theorem Ev.headers {x : Str} {px pos : Pos} {a : Addr} (hA : HdAttr prog w G) (hs : Ev prog w A G X W env σ cs (.Name x px) (.hdr a)) : Ev prog w A G X W env σ cs (.Attribute (.Name x px) "_headers" pos) (.is (.ref a)) := by
  refine ⟨fun s i => ?_⟩
  rw [arm_eval_Attribute]
  have e1 : attributeBase (.Name x px) "_headers" env (eval (.Name x px) env) = eval (.Name x px) env := rfl
  rw [e1]
  refine wpAny_bind (wff (hs.run s i) fun v s₁ ⟨k, r⟩ => wpAny_bind (wpAny_standAt (wpAny_bind (wpAny_holding (hA A (Or2 X W) s₁ v a _ _ (i.quiet k).gd r (wpAny_bind (wpAny_letTemporaryGo (wpAny_pure ⟨k.trans QS.toks, rfl⟩))))))))
end

/-- what stands of the class Headers in the ground -/
structure Hx where
  reN : Addr
  reV : Addr
  conv : Addr
  getall : Addr
  items : Addr
  codeN : Array Nat
  codeV : Array Nat
  gN : Nat
  gV : Nat
structure HdEnv (prog : Program) (w : World) (G : Gn) (H : Hx) : Prop where
  glm : GLm G
  bis : Bis G
  attr : HdAttr prog w G
  nameN : G.mg "_name_disallowed_re" = some (.ref H.reN)
  nameV : G.mg "_value_disallowed_re" = some (.ref H.reV)
  patN : PatAt G H.reN H.codeN H.gN
  patV : PatAt G H.reV H.codeV H.gV
  convF : ∃ fd, IsFn G H.conv (theMeth 1) fd ∧ fd.kwdefaults = .none
  convM : Meth prog w G "_convert_string_type" H.conv
  itemsF : ∃ fd, IsFn G H.items (theMeth 11) fd
  itemsM : Meth prog w G "items" H.items
  getallF : ∃ fd, IsFn G H.getall (theMeth 7) fd
  getallM : Meth prog w G "get_all" H.getall
section
variable {prog : Program} {w : World} {A : Around} {G : Gn} {H : Hx} {X W : Addr → Prop} {env : Env} {σ : List (Str × VD)} {cs cs' : List (Addr × Cell)} {s : Shared} {E : Value → Shared → Prop}
theorem conv_name (hE : HdEnv prog w G H) {hd : Addr} {x : Str} (hx : x.length < 1000) (hf : noFind H.codeN H.gN x = true) : FnG prog w G (.ref H.conv) 3 [] cs cs [("name", .bool true)] [.hdr hd, S x] (S x) := by
  obtain ⟨fd, h, hk⟩ := hE.convF
  exact convert_law hE.glm.toGOk hE.bis h hk hE.nameN hE.nameV hE.patN hE.patV hx (by simpa using hf)
theorem conv_value (hE : HdEnv prog w G H) {hd : Addr} {x : Str} (hx : x.length < 1000) (hf : noFind H.codeV H.gV x = true) : FnG prog w G (.ref H.conv) 3 [] cs cs [("name", .bool false)] [.hdr hd, S x] (S x) := by
  obtain ⟨fd, h, hk⟩ := hE.convF
  exact convert_law hE.glm.toGOk hE.bis h hk hE.nameN hE.nameV hE.patN hE.patV hx (by simpa using hf)
theorem pick_all (ds : List PyData) : pick ds none none = ds := by unfold pick; simp
theorem items_law (hE : HdEnv prog w G H) {hd : Addr} {ds : List PyData} (hl : ds.length ≤ sizeLine) : FnG prog w G (.ref H.items) 2 [] [(hd, .lst ds)] [(hd, .lst ds)] [] [.hdr hd] (.dat (.list ds)) := by
  obtain ⟨fd, h⟩ := hE.itemsF
  obtain ⟨nm, q, kd, doc, pm, cv, ct, rfl⟩ := h.is
  refine FnG.of_def (σ := [("self", .hdr hd)]) hE.glm.toGOk (h.def rfl rfl rfl) (show ([("self" : Str)]).Nodup by decide) (fun k x hx => ?_) (bind1 fun v => rfl) fun A L X hA => ?_
  · simp only [List.map_cons, List.map_nil, List.mem_singleton] at hx
    subst hx
    exact .inl rfl
  refine Ex.ret (d := .dat (.list ds)) ?_ ⟨Or.inl (by with_reducible rfl), fun p hp => hp⟩
  refine ⟨fun s i => ?_⟩
  refine Subscript_Slice (T := "list") list_getitem_lookup (wff ((Ev.headers (a := hd) hE.attr (Ev.name (by kernel_rfl))).run s i) fun o s₁ ⟨k1, r1⟩ => ?_)
  rw [evalPart_none]
  refine wpAny_pure (wpAny_pure ?_)
  have r' : o = .ref hd := r1
  subst r'
  have i1 := i.quiet k1
  obtain ⟨vs, n, e, p⟩ := i1.cell (.head _)
  exact slice_made (lo := none) (hi := none) i1.ok e p .none .none hl fun a s' k r => ⟨k1.trans k, by rw [pick_all] at r; exact r⟩
end
end Mine
set_option maxRecDepth 100000
set_option maxHeartbeats 2000000
namespace Mine
open PySem PySem.W PyProof.Rows PySem.Calls

/-- a str that may be a name or a value -/
structure SOk (H : Hx) (x : Str) : Prop where
  len : x.length < 1000
  ok : PyData.strOk x = true
  lowLen : (Txt.lower x).length < 1000
  lowOk : PyData.strOk (Txt.lower x) = true
  upLen : (Txt.upper x).length < 1000
  upOk : PyData.strOk (Txt.upper x) = true
  name : noFind H.codeN H.gN x = true
  value : noFind H.codeV H.gV x = true
  lowName : noFind H.codeN H.gN (Txt.lower x) = true
theorem short_fits {n : Nat} (h : n < 1000) : Builtin.Str.tooLong n = false := by
  unfold Builtin.Str.tooLong
  exact decide_eq_false (by rw [sizeLine_eq]; lia)
section
variable {prog : Program} {w : World} {A : Around} {G : Gn} {H : Hx} {X W : Addr → Prop} {env : Env} {σ : List (Str × VD)} {cs cs' : List (Addr × Cell)} {s : Shared} {E : Value → Shared → Prop}
theorem kv_item {rk : Row} {x : Str} {px pos p : Pos} {k : Nat} {i : Nat} {d : Str} (hl : σ.lookup x = some (.dat (encR rk))) (hi : i < 2) (hd : ([rk.1, rk.2] : List Str)[i]? = some d) (hx : (x == ("__debug__" : Str)) = false) : Ev prog w A G X W env σ cs (.Subscript (.Name x px) (.Constant (.int i) k p) pos) (S d) := by
  refine Ev.sub (x := .dat (.tuple [.str rk.1, .str rk.2])) (y := I i) (Ev.name hl hx) Ev.const_int (itT (j := i) (by lia) (by lia) ?_ ?_)
  · unfold seqIndex?
    have : ¬ (i : Int) < 0 := by lia
    simp [this]
    lia
  · match i, hi with
    | 0, _ => cases hd; rfl
    | 1, _ => cases hd; rfl
theorem getall_law (hE : HdEnv prog w G H) {hd : Addr} {rows : List Row} {n : Str} (hn : SOk H n) (hr : ∀ r, r ∈ rows → SOk H r.1) (hl : rows.length < 1000) :
    FnG prog w G (.ref H.getall) 5 [] [(hd, .lst (rows.map encR))] [(hd, .lst (rows.map encR))] [] [.hdr hd, S n] (.dat (.list ((rows.filter fun r => decide (Txt.lower r.1 = Txt.lower n)).map fun r => .str r.2))) := by
  obtain ⟨fd, h⟩ := hE.getallF
  obtain ⟨cfd, ch, _⟩ := hE.convF
  obtain ⟨nm, q, kd, doc, pm, cv, ct, rfl⟩ := h.is
  refine FnG.of_def (σ := [("self", .hdr hd), ("name", S n)]) hE.glm.toGOk (h.def rfl rfl rfl) (show ([("self" : Str), ("name" : Str)]).Nodup by decide) (fun k x hx => ?_) (bind2 fun v u => rfl) fun A L X hA => ?_
  · simp only [List.map_cons, List.map_nil, List.mem_cons, List.not_mem_nil, or_false] at hx
    rcases hx with rfl | rfl
    · exact .inl rfl
    · exact .inr ⟨rfl, rfl⟩
  refine Ex.step (St1.assign (d := S (Txt.lower n)) (Ev.meth (hd := hd) (n := 3) (xs := [S (Txt.lower n)]) (ccs := []) (Ev.name (by kernel_rfl)) hE.convM ch.fo (EvA.kwBool (EvL.cons (Ev.lower (Ev.name (by kernel_rfl)) (short_fits hn.lowLen) hn.lowOk) EvL.nil star_call) star_call) (conv_name hE hn.lowLen hn.lowName) (hA.le (by lia)) CsOk.none) (.inr ⟨rfl, rfl⟩)) ?_
  refine Ex.ret (d := .dat (.list ((rows.filter fun r => decide (Txt.lower r.1 = Txt.lower n)).map fun r => .str r.2))) ?_ ⟨Or.inl (by with_reducible rfl), fun p hp => hp⟩
  refine Ev.compJ (xs := rows) (enc := encR) (cl := [("name", L + 1)]) (σc := [("name", S (Txt.lower n))]) rfl (by decide) rfl (by decide) rfl (fun n c e => ⟨n, rfl, e⟩) (.cons (by kernel_rfl) rfl rfl rfl rfl .nil) (EvJ.cell hA.hh (Ev.headers hE.attr (Ev.name (by kernel_rfl))) (.head _) (list_le hl)) (fun C X' r hr' => ?_) (fun C X' r hr' _ => ?_)
  · refine TrL.one (Tr.conv (Tr.cmp (x := S (Txt.lower r.1)) (y := S (Txt.lower n)) (Ev.lower (kv_item (rk := r) (i := 0) (by kernel_rfl) (by decide) rfl (by decide)) (short_fits (hr r hr').lowLen) (hr r hr').lowOk) (Ev.name (by kernel_rfl)) (eqD ?_)) (eqv_str _ _))
    have := hA.un
    have e1 : (PyData.str (Txt.lower r.1)).depth = 0 := rfl
    lia
  · exact kv_item (rk := r) (i := 1) (by kernel_rfl) (by decide) rfl (by decide)
end
end Mine
set_option maxRecDepth 100000
set_option maxHeartbeats 2000000
namespace Mine
open PySem PySem.W PyProof.Rows PySem.Calls

section
variable {prog : Program} {w : World} {A : Around} {G : Gn} {H : Hx} {X W : Addr → Prop} {env : Env} {σ : List (Str × VD)} {cs cs' : List (Addr × Cell)} {s : Shared} {E : Value → Shared → Prop}
/-- l[:] = v -/
theorem setItem_whole {l b : Addr} {sl : Addr} {vs us : Array Value} {n m : Nat} {Q : Unit → Shared → Prop} (hl : s.heap.get? l = some { cls := .type "list", data := .seq vs n }) (hv : s.heap.get? b = some { cls := .type "list", data := .seq us m }) (hs : s.heap.IsSliceOf sl .none .none .none) (hbl : b ≠ l)
    (h1 : vs.size < 1000) (h2 : us.size < 1000) (hQ : ∀ h' us' c, Heap.ExtBut l s.heap h' → h'.get? l = some { cls := .type "list", data := .seq us' c } → us'.toList = us.toList → Q () { s with heap := h' }) :
    wpAny (model prog w) A (setItem (.ref l) (.ref sl) (.ref b)) Q E s := by
  obtain ⟨os, hos, hcs, hds⟩ := id hs
  have hTs : s.TypeIs (.ref sl) "slice" := ⟨os, hos, hcs⟩
  have hT : s.TypeIs (.ref l) "list" := ⟨_, hl, rfl⟩
  unfold setItem
  try with_reducible refine wpAny_holding ?_
  first | refine wpAny_bind (wpAny_pure ?_) | skip
  refine wpAny_bind (wpAny_sequenceKey hT (by decide) ?_)
  refine wpAny_bind (wpAny_callSpecial?_slot (name := Str.ofString "__setitem__") hT slot_list_setitem
    (wpAny_call_entry slot_list_setitem hT entry_list_setitem ?_ (args_list_setitem _ _ _)))
  show wpAny _ _ (Builtin.List.listSubscript? (.ref sl) >>= _) _ _ s
  refine wpAny_bind ?_
  unfold Builtin.List.listSubscript?
  refine wpAny_bind (wpAny_specialOf hTs slice_no_index ?_)
  simp only [Option.isNone_none, if_true]
  refine wpAny_pure ?_
  show wpAny _ _ (typeOf (.ref sl) >>= _) _ _ s
  refine wpAny_bind (wpAny_typeOf hTs ?_)
  rw [if_neg (by decide)]
  rw [listSliceParts_eq]
  refine wpAny_bind (wpAny_bind (wpAny_field hos hds (x := .none) rfl (wpAny_bind (wpAny_listPart .none ?_))))
  rw [if_neg (by exact Bool.false_ne_true)]
  refine wpAny_bind (wpAny_field hos hds (x := .none) rfl (wpAny_bind (wpAny_listPart .none ?_)))
  refine wpAny_bind (wpAny_field hos hds (x := .none) rfl (wpAny_bind (wpAny_listPart .none (wpAny_pure ?_))))
  have hne : ¬ (Builtin.List.listSameRef (.ref l) (.ref b) = true) := by
    show ¬ ((l == b) = true)
    simpa using fun e : l = b => hbl e.symm
  rw [if_neg hne]
  refine wpAny_bind (m := Builtin.List.listAllItems (.ref b) _) ?_
  unfold Builtin.List.listAllItems
  refine wpAny_bind (wpAny_typeOf (T := "list") ⟨_, hv, rfl⟩ ?_)
  rw [if_pos (by decide)]
  refine listItems_at hv rfl ?_
  refine wpAny_bind (listItems_at hl rfl ?_)
  refine wpAny_bind (wpAny_of_eq (sliceIndices_raw none none none vs.size (by simp)) ?_)
  have eb : sliceBounds none none none vs.size = (0, (vs.size : Int), 1) := rfl
  rw [eb]
  dsimp only
  rw [if_pos (by decide)]
  refine wpAny_bind (wpAny_rule ?_)
  rw [if_neg (by unfold Builtin.List.listTooLong; rw [decide_eq_true_eq, sizeLine_eq]; lia)]
  have e3 : (vs.extract 0 (0 : Int).toNat ++ us ++ vs.extract (max (0 : Int) (vs.size : Int)).toNat).toList = us.toList := by
    have : (max (0 : Int) (vs.size : Int)).toNat = vs.size := by lia
    rw [this]
    simp
  obtain ⟨c2, hc2⟩ : ∃ c2, (s.heap.update l (Obj.mapSeq fun xs => xs.extract 0 (0 : Int).toNat ++ us ++ xs.extract (max (0 : Int) (vs.size : Int)).toNat)).get? l = some { cls := .type "list", data := .seq (vs.extract 0 (0 : Int).toNat ++ us ++ vs.extract (max (0 : Int) (vs.size : Int)).toNat) c2 } := ⟨_, get?_update_seq hl _⟩
  have hz : (vs.extract 0 (0 : Int).toNat ++ us ++ vs.extract (max (0 : Int) (vs.size : Int)).toNat).size = us.size := by rw [← Array.length_toList, e3, Array.length_toList]
  refine wpAny_bind (listUpdate_at hl rfl ?_ (by rw [sizeLine_eq]; lia) (Nat.le_trans (Nat.le_of_eq hz) (by rw [sizeLine_eq]; lia)))
  refine wpAny_bind (wpAny_letGo ?_)
  have fin := hQ _ _ c2 (Heap.SameBut.update s.heap l (Obj.mapSeq fun xs => xs.extract 0 (0 : Int).toNat ++ us ++ xs.extract (max (0 : Int) (vs.size : Int)).toNat)).extBut hc2 e3
  first
    | exact wpAny_pure ⟨.none, rfl, wpAny_pure fin⟩
    | exact wpAny_bind (wpAny_pure (wpAny_pure ⟨.none, rfl, wpAny_pure fin⟩))
/-- o[:] = e, of a list of one's own -/
theorem St1.setAll {o e : Expr} {a : Addr} {ds ds' : List PyData} {p spos pos : Pos} (ho : Ev prog w A G X W env σ cs o (.is (.ref a))) (he : Ev prog w A G X W env σ cs e (.dat (.list ds'))) (wa : W a) (u : CU a (.lst ds) (.lst ds') cs cs') (h1 : ds.length < 1000) (h2 : ds'.length < 1000)
    (hsw : swapsWith e (some (.Subscript o (.Slice none none none p) spos)) pos.line env = pure false) : St1 prog w A G X W env σ cs (.Assign [.Subscript o (.Slice none none none p) spos] e pos) σ cs' := by
  refine ⟨fun s i => ?_⟩
  refine wpAny_Assign_Subscript (wff (he.run s i) fun v s₁ ⟨k1, r1⟩ => wff (ho.run s₁ (i.quiet k1)) fun ov s₂ ⟨k2, r2⟩ => wpAny_Slice ?_) hsw
  rw [evalPart_none]
  refine wpAny_pure (wpAny_pure (wpAny_pure ?_))
  have r2' : ov = .ref a := r2
  subst r2'
  have i1 := i.quiet k1
  have i2 := i1.quiet k2
  have k3 : QQ G s₂ { s₂ with heap := s₂.heap.push { cls := .type "slice", data := .fields #[.none, .none, .none] } } := QS.push _
  have i3 := i2.quiet k3
  obtain ⟨vs, n, e1, p1⟩ := i3.cell u.mem
  have rv := (r1.quiet i1.ok k2).quiet i2.ok k3
  obtain ⟨b, us, m, rfl, nb, e2, p2⟩ := Rd.list_inv rv
  have hab : b ≠ a := fun z => nb (.inr (z ▸ wa))
  refine setItem_whole e1 e2 (Heap.IsSliceOf.new ..) hab (by rw [Rd.size p1]; exact h1) (by rw [Rd.size p2]; exact h2) fun h' us' c hx hc et => ?_
  have kx : ∀ b o, ¬ Or2 X W b → (s₂.heap.push { cls := .type "slice", data := .fields #[.none, .none, .none] }).get? b = some o → h'.get? b = some o := fun b o nb e => hx b o (fun z => nb (.inr (by rw [z]; exact wa))) e
  obtain ⟨i4, k4⟩ := i3.setCell (tk := s₂.toks) u wa hx ⟨us', c, hc, by rw [et]; exact p2.up kx⟩
  exact ⟨rfl, i4, (QQ.to ((k1.trans k2).trans k3)).trans k4⟩
end
end Mine
set_option maxRecDepth 100000
set_option maxHeartbeats 2000000
namespace Mine
open PySem PySem.W PyProof.Rows PySem.Calls

section
variable {prog : Program} {w : World} {A : Around} {G : Gn} {H : Hx} {X W : Addr → Prop} {env : Env} {σ : List (Str × VD)} {cs cs' : List (Addr × Cell)} {s : Shared} {E : Value → Shared → Prop}
/-- o.append(e) -/
theorem St1.appendO {o e : Expr} {apos cpos pos : Pos} {a : Addr} {ds : List PyData} {d : PyData} (ho : Ev prog w A G X W env σ cs o (.is (.ref a))) (he : Ev prog w A G X W env σ cs e (.dat d)) (u : CU a (.lst ds) (.lst (ds ++ [d])) cs cs') (wa : W a) (hsz : ds.length ≤ sizeLine)
    (hbase : attributeBase o "append" env (eval o env) = eval o env) (hs : starEach [e] env = [(false, eval e env)]) (hline : (apos.endLine == cpos.line) = true)
    (hi : interactive env = false) (hsw : swapsWith (.Call (.Attribute o "append" apos) [e] [] cpos) none pos.line env = pure false) :
    St1 prog w A G X W env σ cs (.Expr (.Call (.Attribute o "append" apos) [e] [] cpos) pos) σ cs' := by
  refine ⟨fun s i => ?_⟩
  refine wpAny_Expr (hi := hi) (hs := hsw) (Call_method1 hbase hs hline (wff (ho.run s i) fun v s₁ ⟨k, r⟩ => ?_))
  have r' : v = .ref a := r
  subst r'
  have i1 := i.quiet k
  obtain ⟨vs, n, e1, r1⟩ := i1.cell u.mem
  refine ⟨"list", _, F.plainAttrs_list, F.slot_list_append, F.type_list_append, ⟨_, e1, rfl⟩, fun b hb => by cases hb; exact ⟨_, e1, rfl⟩, ?_⟩
  refine P.append_list (wff (he.run s₁ i1) fun y s₂ ⟨k2, r2⟩ => ?_)
  have i2 := i1.quiet k2
  obtain ⟨vs, n, e2, p2⟩ := i2.cell u.mem
  refine ⟨vs, n, by rw [Rd.size p2]; exact hsz, e2, ?_⟩
  have hs := (Heap.SameBut.update s₂.heap a (Obj.mapSeq fun xs => xs.push y)).extBut
  have kx : ∀ b o, ¬ Or2 X W b → s₂.heap.get? b = some o → (s₂.heap.update a (Obj.mapSeq fun xs => xs.push y)).get? b = some o := fun b o nb e => hs b o (fun z => nb (.inr (by rw [z]; exact wa))) e
  obtain ⟨i3, k3⟩ := i2.setCell (tk := s₂.toks) u wa (h := s₂.heap.update a (Obj.mapSeq fun xs => xs.push y)) hs ⟨vs.push y, _, get?_update_seq e2 _, by rw [Array.toList_push]; exact (p2.up kx).app (.one (Rd.up r2 kx))⟩
  exact ⟨rfl, i3, (QQ.to (k.trans k2)).trans k3⟩

noncomputable def notN (n : Str) (r : Row) : Bool := !decide (Txt.lower r.1 = Txt.lower n)
theorem delitem_law (hE : HdEnv prog w G H) {a : Addr} {fd : FuncData} (h : IsFn G a (theMeth 4) fd) {hd : Addr} {rows : List Row} {n : Str} (hn : SOk H n) (hr : ∀ r, r ∈ rows → SOk H r.1) (hl : rows.length < 1000) :
    FnG prog w G (.ref a) 5 [hd] [(hd, .lst (rows.map encR))] [(hd, .lst ((rows.filter (notN n)).map encR))] [] [.hdr hd, S n] (.dat .none) := by
  obtain ⟨cfd, ch, _⟩ := hE.convF
  obtain ⟨nm, q, kd, doc, pm, cv, ct, rfl⟩ := h.is
  refine FnG.of_def (σ := [("self", .hdr hd), ("name", S n)]) hE.glm.toGOk (h.def rfl rfl rfl) (show ([("self" : Str), ("name" : Str)]).Nodup by decide) (fun k x hx => ?_) (bind2 fun v u => rfl) fun A L X hA => ?_
  · simp only [List.map_cons, List.map_nil, List.mem_cons, List.not_mem_nil, or_false] at hx
    rcases hx with rfl | rfl
    · exact .inl rfl
    · exact .inr ⟨rfl, rfl⟩
  refine Ex.step (St1.assign (d := S (Txt.lower n)) (Ev.meth (hd := hd) (n := 3) (xs := [S (Txt.lower n)]) (ccs := []) (Ev.name (by kernel_rfl)) hE.convM ch.fo (EvA.kwBool (EvL.cons (Ev.lower (Ev.name (by kernel_rfl)) (short_fits hn.lowLen) hn.lowOk) EvL.nil star_call) star_call) (conv_name hE hn.lowLen hn.lowName) (hA.le (by lia)) CsOk.none) (.inr ⟨rfl, rfl⟩)) ?_
  have hcomp : (((rows.filter (notN n)).map encR).length) < 1000 := by
    rw [List.length_map]; exact Nat.lt_of_le_of_lt (List.length_filter_le _ _) hl
  refine Ex.step (St1.setAll (a := hd) (ds := rows.map encR) (ds' := (rows.filter (notN n)).map encR) (Ev.headers hE.attr (Ev.name (by kernel_rfl))) ?_ (.inr (List.mem_singleton.mpr rfl)) .head (by rw [List.length_map]; exact hl) hcomp (by kernel_rfl)) (Ex.nil ⟨Or.inr ⟨Eq.refl _, Eq.refl _⟩, fun p hp => hp⟩)
  refine Ev.compJ (xs := rows) (enc := encR) (cl := [("name", L + 1)]) (σc := [("name", S (Txt.lower n))]) rfl (by decide) rfl (by decide) rfl (fun n c e => ⟨n, rfl, e⟩) (.cons (by kernel_rfl) rfl rfl rfl rfl .nil) (EvJ.cell hA.hh (Ev.headers hE.attr (Ev.name (by kernel_rfl))) (.head _) (list_le hl)) (fun C X' r hr' => ?_) (fun C X' r hr' _ => ?_)
  · refine TrL.one (Tr.conv (Tr.cmp (x := S (Txt.lower r.1)) (y := S (Txt.lower n)) (Ev.lower (kv_item (rk := r) (i := 0) (by kernel_rfl) (by decide) rfl (by decide)) (short_fits (hr r hr').lowLen) (hr r hr').lowOk) (Ev.name (by kernel_rfl)) (neD ?_)) (by rw [eqv_str]; rfl))
    have := hA.un
    have e1 : (PyData.str (Txt.lower r.1)).depth = 0 := rfl
    lia
  · exact Ev.name (by kernel_rfl)
end
end Mine
set_option maxRecDepth 100000
set_option maxHeartbeats 2000000
namespace Mine
open PySem PySem.W PyProof.Rows PySem.Calls

/-- `del q[k]` and `q[k] = v` go to the methods -/
structure HdOps (prog : Program) (w : World) (G : Gn) (fdel fset : Addr) : Prop where
  del : ∀ A X s v a k (Q : Unit → Shared → Prop), Gd G s.heap → HdrAt G X s.heap v a → wpAny (model prog w) A (call (.ref fdel) [v, k]) (fun _ s' => Q () s') FF s → wpAny (model prog w) A (delItem v k) Q FF s
  set : ∀ A X s v a k u (Q : Unit → Shared → Prop), Gd G s.heap → HdrAt G X s.heap v a → wpAny (model prog w) A (call (.ref fset) [v, k, u]) (fun _ s' => Q () s') FF s → wpAny (model prog w) A (setItem v k u) Q FF s
section
variable {prog : Program} {w : World} {A : Around} {G : Gn} {H : Hx} {X W : Addr → Prop} {env : Env} {σ : List (Str × VD)} {cs cs' ccs ccs' : List (Addr × Cell)} {s : Shared} {E : Value → Shared → Prop}
theorem St1.delH {o i : Expr} {p pos : Pos} {fdel fset : Addr} {n : Nat} {hd : Addr} {Wr : List Addr} {k : VD} (hO : HdOps prog w G fdel fset) (ho : Ev prog w A G X W env σ cs o (.hdr hd)) (hi : Ev prog w A G X W env σ cs i k) (h : FnG prog w G (.ref fdel) n Wr ccs ccs' [] [.hdr hd, k] (.dat .none)) (hA : Aok A n) (c : CsOk X W env Wr cs cs' ccs ccs') :
    St1 prog w A G X W env σ cs (.Delete [.Subscript o i p] pos) σ cs' := by
  refine ⟨fun s i0 => ?_⟩
  refine wpAny_Delete (wpAny_deleteEach_cons (wpAny_delete_Subscript (wff (ho.run s i0) fun v s₁ ⟨k1, r1⟩ => wff (hi.run s₁ (i0.quiet k1)) fun u s₂ ⟨k2, r2⟩ => ?_)))
  have i1 := i0.quiet k1
  have i2 := i1.quiet k2
  have r1' := r1.quiet i1.ok k2
  refine hO.del A (Or2 X W) s₂ v hd u _ i2.gd r1' (wff (h.run hA i2 c (.cons r1' (.cons r2 .nil))) fun x s₃ ⟨i3, q, _, rz⟩ => wpAny_deleteEach_nil ⟨rfl, i3, (QQ.to (k1.trans k2)).trans q⟩)
theorem St1.setH {o i e : Expr} {p pos : Pos} {fdel fset : Addr} {n : Nat} {hd : Addr} {Wr : List Addr} {k d : VD} (hO : HdOps prog w G fdel fset) (he : Ev prog w A G X W env σ cs e d) (ho : Ev prog w A G X W env σ cs o (.hdr hd)) (hi : Ev prog w A G X W env σ cs i k)
    (h : FnG prog w G (.ref fset) n Wr ccs ccs' [] [.hdr hd, k, d] (.dat .none)) (hA : Aok A n) (c : CsOk X W env Wr cs cs' ccs ccs') (hsw : swapsWith e (some (.Subscript o i p)) pos.line env = pure false) :
    St1 prog w A G X W env σ cs (.Assign [.Subscript o i p] e pos) σ cs' := by
  refine ⟨fun s i0 => ?_⟩
  refine wpAny_Assign_Subscript (wff (he.run s i0) fun d' s₀ ⟨k0, r0⟩ => wff (ho.run s₀ (i0.quiet k0)) fun v s₁ ⟨k1, r1⟩ => wff (hi.run s₁ ((i0.quiet k0).quiet k1)) fun u s₂ ⟨k2, r2⟩ => ?_) hsw
  have i00 := i0.quiet k0
  have i1 := i00.quiet k1
  have i2 := i1.quiet k2
  have r1' := r1.quiet i1.ok k2
  have r0' := (r0.quiet i00.ok k1).quiet i1.ok k2
  exact hO.set A (Or2 X W) s₂ v hd u d' _ i2.gd r1' (wff (h.run hA i2 c (.cons r1' (.cons r2 (.cons r0' .nil)))) fun x s₃ ⟨i3, q, _, rz⟩ => ⟨rfl, i3, (QQ.to ((k0.trans k1).trans k2)).trans q⟩)
theorem bind3 {fd : FuncData} {x y z : Str} {d e f : VD} (h : ∀ v u t, bindArgs fd ⟨[v, u, t], []⟩ = (pure [(x, v), (y, u), (z, t)] : Sem (List (Str × Value)))) : ∀ A X s vs, Ok G X s → AtL G X s.heap vs [d, e, f] → wpAny (model prog w) A (bindArgs fd ⟨vs, []⟩) (fun bs s' => QQ G s s' ∧ bs.map (·.1) = ([(x, d), (y, e), (z, f)] : List (Str × VD)).map (·.1) ∧ AtL G X s'.heap (bs.map (·.2)) (([(x, d), (y, e), (z, f)] : List (Str × VD)).map (·.2))) FF s := by
  intro A X s vs i r
  obtain _ | ⟨r1, _ | ⟨r2, _ | ⟨r3, _ | _⟩⟩⟩ := r
  rw [h]
  exact wpAny_pure ⟨QS.refl s, rfl, .cons r1 (.cons r2 (.cons r3 .nil))⟩
theorem CsOk.one {hd : Addr} {c c' : Cell} (hw : W hd) : CsOk X W env [hd] [(hd, c)] [(hd, c')] [(hd, c)] [(hd, c')] :=
  ⟨fun _ h => h, fun h => h, fun a h => by rw [List.mem_singleton.mp h]; exact hw, fun a h => by rw [List.mem_singleton.mp h]; exact List.mem_singleton.mpr rfl, fun p h => .inl h, rfl⟩
/-- __setitem__ -/
theorem setitem_law (hE : HdEnv prog w G H) {fdel fset : Addr} {dfd fd : FuncData} (hO : HdOps prog w G fdel fset) (hdl : IsFn G fdel (theMeth 4) dfd) (h : IsFn G fset (theMeth 3) fd) {hd : Addr} {rows : List Row} {n v : Str} (hn : SOk H n) (hv : SOk H v) (hr : ∀ r, r ∈ rows → SOk H r.1) (hl : rows.length < 990) :
    FnG prog w G (.ref fset) 7 [hd] [(hd, .lst (rows.map encR))] [(hd, .lst ((rows.filter (notN n) ++ [(n, v)]).map encR))] [] [.hdr hd, S n, S v] (.dat .none) := by
  obtain ⟨cfd, ch, _⟩ := hE.convF
  obtain ⟨nm, q, kd, doc, pm, cv, ct, rfl⟩ := h.is
  refine FnG.of_def (σ := [("self", .hdr hd), ("name", S n), ("val", S v)]) hE.glm.toGOk (h.def rfl rfl rfl) (show ([("self" : Str), ("name" : Str), ("val" : Str)]).Nodup by decide) (fun k x hx => ?_) (bind3 fun v u t => rfl) fun A L X hA => ?_
  · simp only [List.map_cons, List.map_nil, List.mem_cons, List.not_mem_nil, or_false] at hx
    rcases hx with rfl | rfl | rfl <;> exact .inl rfl
  have hw : callW (fnOf (theMeth 3) nm q kd doc pm cv ct) L fset [hd] hd := .inr (List.mem_singleton.mpr rfl)
  refine Ex.step (St1.delH hO (Ev.name (by kernel_rfl)) (Ev.name (by kernel_rfl)) (delitem_law hE hdl hn hr (by lia)) (hA.le (by lia)) (CsOk.one hw)) ?_
  refine Ex.step (St1.appendO (a := hd) (d := encR (n, v)) (Ev.headers hE.attr (Ev.name (by kernel_rfl))) ?_ .head hw ?_ rfl rfl rfl rfl rfl) (Ex.nil ⟨Or.inr ⟨Eq.refl _, Eq.refl _⟩, fun p hp => ?_⟩)
  · refine EvD.tuple [.str n, .str v] ?_ (by show 2 ≤ 1000; decide)
    refine EvD.cons (Ev.meth (hd := hd) (n := 3) (xs := [S n]) (ccs := []) (Ev.name (by kernel_rfl)) hE.convM ch.fo (EvA.kwBool (EvL.cons (Ev.name (by kernel_rfl)) EvL.nil star_name) star_name) (conv_name hE hn.len hn.name) (hA.le (by lia)) CsOk.none) ?_ star_call
    exact EvD.cons (Ev.meth (hd := hd) (n := 3) (xs := [S v]) (ccs := []) (Ev.name (by kernel_rfl)) hE.convM ch.fo (EvA.kwBool (EvL.cons (Ev.name (by kernel_rfl)) EvL.nil star_name) star_name) (conv_value hE hv.len hv.value) (hA.le (by lia)) CsOk.none) EvD.nil star_call
  · rw [List.length_map]; exact list_le (Nat.lt_of_le_of_lt (List.length_filter_le _ _) (by lia))
  · rw [List.map_append] at hp; exact hp
end
end Mine
set_option maxRecDepth 100000
set_option maxHeartbeats 2000000
namespace Mine
open PySem PySem.W PyProof.Rows PySem.Calls

section
variable {prog : Program} {w : World} {A : Around} {G : Gn} {H : Hx} {X W : Addr → Prop} {env : Env} {σ : List (Str × VD)} {cs cs' ccs ccs' : List (Addr × Cell)} {s : Shared} {E : Value → Shared → Prop}
/-- for .. in x.items() of an empty dict -/
theorem Ex.forEmp {U : Un} {target : Expr} {x : Str} {px apos cpos pos : Pos} {body rest : List Stmt} {Q : Post} (hh : A.handled = none) (hl : σ.lookup x = some .emp) (hd : (x == ("__debug__" : Str)) = false) (hline : (apos.endLine == cpos.line) = true) (hrest : ExU U prog w A G X W env σ cs rest Q)
    (hs : ∀ v, foldedSetIterable (.Call (.Attribute (.Name x px) "items" apos) [] [] cpos) env v = pure v) : ExU U prog w A G X W env σ cs (.For target (.Call (.Attribute (.Name x px) "items" apos) [] [] cpos) body [] pos :: rest) Q := by
  refine Ex.step (σ' := σ) (cs' := cs) ⟨fun s i => ?_⟩ hrest
  obtain ⟨v, nm, d, rfl, nd, hsm, ed⟩ := i.nm x .emp hl
  have hD : s.heap.DictOf (PySem.strKind prog w) d [] := ⟨_, #[], 0, ed, ⟨rfl, rfl, rfl⟩, rfl, fun _ h => by simp at h, .nil, List.nodup_nil⟩
  refine wpAny_For (hs := hs) (wpAny_Call_items hsm hD rfl hline (fun Q' hq => ?_) ?_)
  · refine wpAny_Name ?_ hd
    rcases nm with ⟨a, m, n, e⟩ | ⟨a | ⟨a, hn⟩, c, l, q⟩
    · exact wpAny_loadName_local i.fr.kind a n e hq
    · exact wpAny_loadName_cell i.fr.kind a l q hq
    · exact wpAny_loadName_free i.fr.kind a l q hq hn
  · have ed1 : (s.heap.push { cls := .type "dict_items", data := .fields #[.ref d] }).get? d = some { cls := .type "dict", data := .dict #[] } := Heap.get?_push_of_some _ ed
    have k1 : QQ G s { s with heap := s.heap.push { cls := .type "dict_items", data := .fields #[.ref d] } } := QS.push _
    have i1 := i.quiet k1
    refine wpAny_pyIter_items (knd := PySem.strKind prog w) (ep := 0) (kvs := []) ⟨_, Heap.get?_push_size _ rfl, rfl, rfl⟩ ⟨_, #[], ed1, ⟨rfl, rfl, rfl⟩, rfl, fun _ h => by simp at h, .nil, List.nodup_nil⟩ ?_
    generalize hH : s.heap.push { cls := .type "dict_items", data := .fields #[.ref d] } = H1 at *
    have hf : H1.get? H1.objs.size = none := Heap.get?_none_of_le (Nat.le_refl _)
    have k2 : QQ G { s with heap := H1 } { s with heap := H1.push { cls := .type "dict_itemiterator", data := .fields #[.none, .bool false, .ref d, .int 0 0, .int (([] : List (Str × Value)).length) 0, .int (0 : Nat) 0, .none, .none] } } := QS.push _
    have ed2 : (H1.push { cls := .type "dict_itemiterator", data := .fields #[.none, .bool false, .ref d, .int 0 0, .int (([] : List (Str × Value)).length) 0, .int (0 : Nat) 0, .none, .none] }).get? d = some { cls := .type "dict", data := .dict #[] } := Heap.get?_push_of_some _ ed1
    have oI : (H1.push { cls := .type "dict_itemiterator", data := .fields #[.none, .bool false, .ref d, .int 0 0, .int (([] : List (Str × Value)).length) 0, .int (0 : Nat) 0, .none, .none] }).get? H1.objs.size = some _ := Heap.get?_push_size _ rfl
    have iw := i1.widen k2 hf oI
    obtain ⟨nB, nj, nX⟩ := i1.noB hf
    refine codeAny_forLoop_any (fun c s' => c = 1 ∧ s' = { s with heap := H1.push { cls := .type "dict_itemiterator", data := .fields #[.none, .bool false, .ref d, .int 0 0, .int (([] : List (Str × Value)).length) 0, .int (0 : Nat) 0, .none, .none] } }) ?_ 1 ⟨rfl, rfl⟩
    rintro c s' ⟨rfl, rfl⟩
    refine wpAny_pyNext_items_end (knd := PySem.strKind prog w) (d := d) (i := 0) (ep := 0) (kvs := []) (ok := .none) (ov := .none) hh oI ⟨_, #[], ed2, ⟨rfl, rfl, rfl⟩, rfl, fun _ h => by simp at h, .nil, List.nodup_nil⟩ rfl fun h' hx => ?_
    have i3 := iw.forget (tk := s.toks) i.jk nX hx oI (fun vs x t e => by cases e; simp) nB (i1.ceNe nX)
    refine wpAny_execs_nil ⟨rfl, i3, ?_⟩
    exact (QQ.to k1).trans (QQ.to (k2.drop hx hf oI (fun vs x t e => by cases e; simp) nB nj))
end
end Mine
set_option maxRecDepth 100000
set_option maxHeartbeats 2000000
namespace Mine
open PySem PySem.W PyProof.Rows PySem.Calls

section
variable {prog : Program} {w : World} {A : Around} {G : Gn} {H : Hx} {X W : Addr → Prop} {env : Env} {σ : List (Str × VD)} {cs cs' ccs ccs' : List (Addr × Cell)} {s : Shared} {E : Value → Shared → Prop}
/-- sep.join(x), of a list of one's own with one str -/
theorem Ev.joinOne {o : Expr} {x : Str} {px apos pos : Pos} {sep y : Str} {a : Addr} (ho : Ev prog w A G X W env σ cs o (S sep)) (hl : σ.lookup x = some (.is (.ref a))) (hm : (a, Cell.lst [.str y]) ∈ cs) (hj : JoinOk sep [y] = true) (he : Txt.join sep [y] = y) (hd : (x == ("__debug__" : Str)) = false)
    (hbase : attributeBase o "join" env (eval o env) = eval o env) (hline : (apos.endLine == pos.line) = true) : Ev prog w A G X W env σ cs (.Call (.Attribute o "join" apos) [.Name x px] [] pos) (S y) := by
  refine ⟨fun s i => ?_⟩
  refine Call_method1 hbase rfl hline (wff (ho.run s i) fun v s₁ ⟨k, r⟩ => ?_)
  obtain ⟨⟨t, rfl⟩, _⟩ := Rd.str_inv r
  have i1 := i.quiet k
  refine SB.join (wff ((Ev.name (pos := px) hl hd).run s₁ i1) fun v s₂ ⟨k2, r2⟩ => ?_)
  have r2' : v = .ref a := r2
  subst r2'
  obtain ⟨vs, n, e, p⟩ := (i1.quiet k2).cell hm
  obtain ⟨u, hu, ru⟩ := p.get (i := 0) rfl
  obtain ⟨⟨t2, rfl⟩, hok⟩ := Rd.str_inv ru
  have hv : vs = (strValues [(y, t2)]).toArray := by
    apply Array.toList_inj.mp
    have hlen := p.len
    match h : vs.toList, hu, hlen with
    | [z], hu, _ => simp at hu; subst hu; rfl
  refine ⟨a, [(y, t2)], rfl, ⟨_, e, rfl, n, by rw [hv]⟩, [y], rfl, hj, ?_⟩
  exact fun t' tk => ⟨(k.trans k2).trans QS.toks, by rw [he]; exact .str _ _ hok⟩
/-- add_header, with no further words -/
theorem addheader_law (hE : HdEnv prog w G H) {a : Addr} {fd : FuncData} (h : IsFn G a (theMeth 16) fd) {hd : Addr} {ds : List PyData} {n v : Str} (hn : SOk H n) (hv : SOk H v) (hl : ds.length < 1000) (hj : JoinOk "; " [v] = true) (hjv : Txt.join "; " [v] = v) :
    FnG prog w G (.ref a) 5 [hd] [(hd, .lst ds)] [(hd, .lst (ds ++ [encR (n, v)]))] [] [.hdr hd, S n, S v] (.dat .none) := by
  obtain ⟨cfd, ch, _⟩ := hE.convF
  obtain ⟨nm, q, kd, doc, pm, cv, ct, rfl⟩ := h.is
  refine FnG.of_def (σ := [("self", .hdr hd), ("_name", S n), ("_value", S v), ("_params", .emp)]) hE.glm.toGOk (h.def rfl rfl rfl) (show ([("self" : Str), ("_name" : Str), ("_value" : Str), ("_params" : Str)]).Nodup by decide) (fun k x hx => ?_) ?_ fun A L X hA => ?_
  · simp only [List.map_cons, List.map_nil, List.mem_cons, List.not_mem_nil, or_false] at hx
    rcases hx with rfl | rfl | rfl | rfl <;> exact .inl rfl
  · intro A X s vs i r
    obtain _ | ⟨r1, _ | ⟨r2, _ | ⟨r3, _ | _⟩⟩⟩ := r
    rename_i v1 v2 v3
    have e : bindArgs (fnOf (theMeth 16) nm q kd doc pm cv ct) ⟨[v1, v2, v3], []⟩ = (do
        let d ← alloc { cls := .type "dict", data := .dict #[] }
        pure [("self", v1), ("_name", v2), ("_value", v3), ("_params", .ref d)] : Sem (List (Str × Value))) := by kernel_rfl
    rw [e]
    have up : ∀ b o, s.heap.get? b = some o → (s.heap.push { cls := .type "dict", data := .dict #[] }).get? b = some o := fun b o e => Heap.get?_push_of_some _ e
    have k : QQ G s { s with heap := s.heap.push { cls := .type "dict", data := .dict #[] } } := QS.push _
    refine wpAny_bind (wpAny_alloc (wpAny_pure ⟨k, rfl, .cons (r1.quiet i k) (.cons (r2.quiet i k) (.cons (r3.quiet i k) (.cons ⟨_, rfl, i.fresh, ?_, Heap.get?_push_size _ rfl⟩ .nil)))⟩))
    exact beq_eq_false_iff_ne.mpr (Nat.ne_of_gt (modules_low (hE.glm.nolimit.keeps i.gd.fr.keep)))
  refine Ex.newList (ds := []) EvL.nil rfl (by decide +kernel) (.inl rfl) fun ap hap => ?_
  have hw : Wn (callW (fnOf (theMeth 16) nm q kd doc pm cv ct) L a [hd]) ap hd := .inl (.inr (List.mem_singleton.mpr rfl))
  refine Ex.thenGo (W' := Wn (callW (fnOf (theMeth 16) nm q kd doc pm cv ct) L a [hd]) ap) (σ' := [("_value", S v), ("parts", .is (.ref ap)), ("self", .hdr hd), ("_name", S n), ("_value", S v), ("_params", .emp)]) (cs' := [(ap, .lst [.str v]), (hd, .lst ds)]) ?_ ?_ ?_
  · exact Tr.conv (Tr.cmp (x := S v) (y := .dat .none) (Ev.name (by kernel_rfl)) Ev.const_none isNotNoneD) rfl
  · refine Ex.step (St1.assign (d := S v) (Ev.meth (hd := hd) (n := 3) (xs := [S v]) (ccs := []) (Ev.name (by kernel_rfl)) hE.convM ch.fo (EvA.kwBool (EvL.cons (Ev.name (by kernel_rfl)) EvL.nil star_name) star_name) (conv_value hE hv.len hv.value) (hA.le (by lia)) CsOk.none) (.inl rfl)) ?_
    exact Ex.step (St1.append (d := .str v) (by kernel_rfl) (Ev.name (by kernel_rfl)) .head (.inr rfl) (by decide +kernel)) Ex.end
  · refine Ex.forEmp hA.hh (by kernel_rfl) (by decide) rfl ?_ (fun _ => rfl)
    refine Ex.step (St1.appendO (a := hd) (d := encR (n, v)) (Ev.headers hE.attr (Ev.name (by kernel_rfl))) ?_ (.tail .head) hw (list_le hl) rfl rfl rfl rfl rfl) (Ex.nil ⟨Or.inr ⟨Eq.refl _, Eq.refl _⟩, fun p hp => .tail _ hp⟩)
    refine EvD.tuple [.str n, .str v] ?_ (by show 2 ≤ 1000; decide)
    refine EvD.cons (Ev.meth (hd := hd) (n := 3) (xs := [S n]) (ccs := []) (Ev.name (by kernel_rfl)) hE.convM ch.fo (EvA.kwBool (EvL.cons (Ev.name (by kernel_rfl)) EvL.nil star_name) star_name) (conv_name hE hn.len hn.name) (hA.le (by lia)) CsOk.none) ?_ star_call
    exact EvD.cons (Ev.joinOne (y := v) Ev.const_str (by kernel_rfl) (.head _) hj hjv (by decide) rfl rfl) EvD.nil star_call
end
end Mine
set_option maxRecDepth 100000
set_option maxHeartbeats 2000000
namespace Mine
open PySem PySem.W PyProof.Rows PySem.Calls

noncomputable def isN (n : Str) (r : Row) : Bool := decide (Txt.lower r.1 = Txt.lower n)
noncomputable def othersOf (q : List Row) (r : Row) : List Str := ((q.filter (isN r.2)).map (·.2)).filter fun o => decide (o ≠ r.1)
noncomputable def goesQ (q : List Row) (r : Row) : List Row := q.filter (notN (Txt.upper r.2)) ++ (othersOf q r).map fun o => (r.2, o)
section
variable {prog : Program} {w : World} {A : Around} {G : Gn} {H : Hx} {X W : Addr → Prop} {env : Env} {σ : List (Str × VD)} {cs cs' ccs ccs' : List (Addr × Cell)} {s : Shared} {E : Value → Shared → Prop}
theorem CsOk.two {hd b : Addr} {c c' cb : Cell} (hw : W hd) (hb : b ≠ hd) : CsOk X W env [hd] [(hd, c), (b, cb)] [(hd, c'), (b, cb)] [(hd, c)] [(hd, c')] :=
  ⟨fun p h => by rw [List.mem_singleton.mp h]; exact .head _, fun _ => by simp, fun a h => by rw [List.mem_singleton.mp h]; exact hw, fun a h => by rw [List.mem_singleton.mp h]; exact .head _,
    fun p h => by
      rcases List.mem_cons.mp h with rfl | h
      · exact .inl (.head _)
      · refine .inr ⟨.tail _ h, fun q => hb ?_⟩
        rw [List.mem_singleton.mp h] at q
        exact List.mem_singleton.mp q, rfl⟩
theorem pick_one {ds : List PyData} : pick ds none (some 1) = ds.take 1 := by
  unfold pick
  simp only [Option.elim_none, Option.elim_some, List.drop_zero, Nat.sub_zero]
  have : clipAt ds.length 1 = min 1 ds.length := by
    unfold clipAt
    first | rfl | (simp; lia)
  rw [this]
  by_cases h : 1 ≤ ds.length
  · rw [Nat.min_eq_left h]
  · have h0 : ds = [] := by
      cases ds with
      | nil => rfl
      | cons _ _ => simp at h
    subst h0; rfl
end
end Mine
set_option maxRecDepth 100000
set_option maxHeartbeats 2000000
namespace Mine
open PySem PySem.W PyProof.Rows PySem.Calls

/-- where the law's own things stand -/
structure Lx where
  fdel : Addr
  fset : Addr
  addh : Addr
  least : Addr
  tLeast : Tb
  goes : Addr
  bridges : Addr
  change : Addr
  tChange : Tb
  key : Addr
  ranks : Addr
  left : Addr
  comp : Addr
structure GoEnv (prog : Program) (w : World) (G : Gn) (H : Hx) (L : Lx) : Prop where
  hE : HdEnv prog w G H
  ops : HdOps prog w G L.fdel L.fset
  delF : ∃ fd, IsFn G L.fdel (theMeth 4) fd
  setF : ∃ fd, IsFn G L.fset (theMeth 3) fd
  addF : ∃ fd, IsFn G L.addh (theMeth 16) fd
  addM : Meth prog w G "add_header" L.addh
  leastF : ∃ fd, IsFn G L.least (theDef 17) fd ∧ HasTb G fd (lamPosOf (defBody (theDef 17))) L.tLeast
  leastG : G.mg "_law_least_first" = some (.ref L.least)
  goesF : ∃ fd, IsFn G L.goes (theDef 18) fd
  goesG : G.mg "_law_goes" = some (.ref L.goes)
/-- a str that may be laid as a value -/
structure TOk (H : Hx) (x : Str) : Prop where
  s : SOk H x
  up : SOk H (Txt.upper x)
  j : JoinOk "; " [x] = true
  jv : Txt.join "; " [x] = x
section
variable {prog : Program} {w : World} {A : Around} {G : Gn} {H : Hx} {X W : Addr → Prop} {env : Env} {σ : List (Str × VD)} {cs cs' ccs ccs' : List (Addr × Cell)} {s : Shared} {E : Value → Shared → Prop}
theorem getall_law' (hE : HdEnv prog w G H) {hd : Addr} {rows : List Row} {n : Str} (hn : SOk H n) (hr : ∀ r, r ∈ rows → SOk H r.1) (hl : rows.length < 1000) :
    FnG prog w G (.ref H.getall) 5 [] [(hd, .lst (rows.map encR))] [(hd, .lst (rows.map encR))] [] [.hdr hd, S n] (.dat (.list (((rows.filter (isN n)).map (·.2)).map PyData.str))) := by
  have h := getall_law hE (hd := hd) hn hr hl
  rw [List.map_map]
  exact h
/-- what the sort by the keys asks of some rows -/
structure LeastOk (kvs : List (Str × PyData)) (key : Row → PyData) (rk : Row → Nat) (rows : List Row) : Prop where
  hv : ∀ r, r ∈ rows → ∃ l1 l0, kvs.lookup r.2 = some (.list l1) ∧ kvs.lookup r.1 = some (.list l0) ∧ key r = .tuple [.list l1, .list l0]
  h64 : rows.length < 64
  hn : (rows.map rk).Nodup
  hlt : ∀ a b, a ∈ rows → b ∈ rows → rk a ≠ rk b → ltd (key a) (key b) = some (decide (rk a < rk b))
  hd : ∀ a, a ∈ rows → (key a).depth ≤ 16
theorem cs_cons {p : Addr × Cell} {l m : List (Addr × Cell)} (h : p ∈ m) (hl : ∀ q, q ∈ l → q ∈ m) : ∀ q, q ∈ p :: l → q ∈ m := fun q hq => (List.mem_cons.mp hq).elim (fun e => e ▸ h) (hl q)
theorem goes_law {L : Lx} (hL : GoEnv prog w G H L) {hd ar : Addr} (hne : ar ≠ hd) {q rows : List Row} {n : Nat} {kvs : List (Str × PyData)} {key : Row → PyData} {rk : Row → Nat} (hO : LeastOk kvs key rk rows) (hq : ∀ r, r ∈ q → TOk H r.1 ∧ TOk H r.2) (hr : ∀ r, r ∈ rows → TOk H r.1 ∧ TOk H r.2) (hlen : q.length < 400) :
    FnG prog w G (.ref L.goes) 10 [hd] [(hd, .lst (q.map encR)), (ar, .tab prog w n kvs)] [(hd, .lst ((((sortBy rk rows).take 1).foldl goesQ q).map encR))] [] [.hdr hd, .dat (.list (rows.map encR)), .is (.ref ar)] (.dat .none) := by
  obtain ⟨fd, h⟩ := hL.goesF
  obtain ⟨afd, ah⟩ := hL.addF
  obtain ⟨dfd, dh⟩ := hL.delF
  obtain ⟨lfd, lh, lt⟩ := hL.leastF
  obtain ⟨gfd, gh⟩ := hL.hE.getallF
  have hG := hL.hE.glm.toGOk
  obtain ⟨nm, qn, kd, doc, pm, cv, ct, rfl⟩ := h.is
  refine FnG.of_def (σ := [("queue", .hdr hd), ("rows", .dat (.list (rows.map encR))), ("ranks", .is (.ref ar))]) hG (h.def rfl rfl rfl) (show ([("queue" : Str), ("rows" : Str), ("ranks" : Str)]).Nodup by decide) (fun k x hx => ?_) (bind3 fun v u t => rfl) fun A L' X hA => ?_
  · simp only [List.map_cons, List.map_nil, List.mem_cons, List.not_mem_nil, or_false] at hx
    rcases hx with rfl | rfl | rfl <;> exact .inl rfl
  have hsub : ∀ r, r ∈ sortBy rk rows → r ∈ rows := fun r hr => (sortBy_perm (rk := rk) (xs := rows)).subset hr
  have hsl : (sortBy rk rows).length < 64 := by rw [(sortBy_perm (rk := rk) (xs := rows)).length_eq]; exact hO.h64
  refine Ex.forS (fun _ => True) trivial (enc := encR) (xs := (sortBy rk rows).take 1) (bnd := fun r => [("key", S r.2), ("when", S r.1)])
    (inv := fun _ => [("queue", .hdr hd), ("rows", .dat (.list (rows.map encR))), ("ranks", .is (.ref ar))])
    (cinv := fun j => [(hd, .lst (((((sortBy rk rows).take 1).take j).foldl goesQ q).map encR)), (ar, .tab prog w n kvs)]) (EvS.list hA.hh ?_ ?_) ?_ ?_ ?_ ?_ ?_ ?_ (fun _ => rfl)
  · rw [List.map_take, ← pick_one]
    refine Ev.sliceL (Ev.call (n := 8) (ccs := [(ar, .tab prog w n kvs)]) (Ev.global hG hL.leastG rfl) lh.fo (EvA.plain (EvL.cons (Ev.name (by kernel_rfl)) (EvL.cons (Ev.name (by kernel_rfl)) EvL.nil star_name) star_name) star_name) (least_law hL.hE.glm hL.hE.bis lh lt hO.hv hO.h64 hO.hn hO.hlt hO.hd) (hA.le (by lia)) ?_) trivial Ev.const_int ?_
    · exact CsOk.quiet (cs_cons (.tail _ (.head _)) no_cs) (fun _ => by simp)
    · rw [List.length_map]; exact list_le (by lia)
  · rw [List.length_take]; exact list_le (by lia)
  · intro r hr
    exact Tgt.two hA.hh (.inr ⟨rfl, rfl⟩) (.inl rfl)
  · exact fun _ _ e => e
  · exact List.Sublist.refl _
  · intro j; rfl
  · intro j r hj _ X'
    obtain rfl : j = 0 := by
      have := (List.getElem?_eq_some_iff.mp hj).1
      rw [List.length_take] at this
      lia
    have hrm := hr r (hsub r (List.mem_of_mem_take (List.mem_of_getElem? hj)))
    have e1 : (((sortBy rk rows).take 1).take (0 + 1)).foldl goesQ q = goesQ q r := by
      rw [List.take_add_one, hj]; rfl
    rw [e1]
    have hun := hA.un
    have hothers : (othersOf q r).length < 400 := by
      unfold othersOf
      refine Nat.lt_of_le_of_lt (List.length_filter_le _ _) ?_
      rw [List.length_map]
      exact Nat.lt_of_le_of_lt (List.length_filter_le _ _) hlen
    refine Ex.step (St1.comp (x := "other") (xs := (q.filter (isN r.2)).map (·.2)) (enc := PyData.str) (f := PyData.str) (p := fun o => decide (o ≠ r.1)) (cl := [("when", L' + 1)]) (σc := [("when", S r.1)]) rfl rfl rfl (by decide) rfl (by decide) rfl (fun n c e => ⟨n, rfl, e⟩) (.cons (by kernel_rfl) rfl rfl rfl rfl .nil)
      (EvS.list hA.hh (Ev.meth (hd := hd) (n := 5) (xs := [S r.2]) (ccs := [(hd, .lst (q.map encR))]) (Ev.name (by kernel_rfl)) hL.hE.getallM gh.fo (EvA.plain (EvL.cons (Ev.name (by kernel_rfl)) EvL.nil star_name) star_name) (getall_law' hL.hE hrm.2.s (fun r hr => (hq r hr).1.s) (by lia)) (hA.le (by lia)) (CsOk.quiet (cs_cons (.head _) no_cs) (fun _ => by simp))) ?_) (fun C X' o ho => ?_) (fun C X' o ho _ => ?_)) ?_
    · rw [List.length_map]; exact list_le (Nat.lt_of_le_of_lt (List.length_filter_le _ _) (by lia))
    · refine TrL.one (Tr.conv (Tr.cmp (x := S o) (y := S r.1) (Ev.name (by kernel_rfl)) (Ev.name (by kernel_rfl)) (neD ?_)) (by rw [eqv_str]; simp))
      have e1 : (PyData.str o).depth = 0 := rfl
      lia
    · exact Ev.name (by kernel_rfl)
    have hw : callW (fnOf (theDef 18) nm qn kd doc pm cv ct) L' L.goes [hd] hd := .inr (List.mem_singleton.mpr rfl)
    refine Ex.step (St1.delH (k := S (Txt.upper r.2)) hL.ops (Ev.name (by kernel_rfl)) (Ev.upper (Ev.name (by kernel_rfl)) (short_fits hrm.2.s.upLen) hrm.2.s.upOk) (delitem_law hL.hE dh hrm.2.up (fun r hr => (hq r hr).1.s) (by lia)) (hA.le (by lia)) (CsOk.two hw hne)) ?_
    refine Ex.forS (fun _ => True) trivial (enc := PyData.str) (xs := othersOf q r) (bnd := fun o => [("other", S o)])
      (inv := fun _ => [("key", S r.2), ("queue", .hdr hd), ("rows", .dat (.list (rows.map encR))), ("ranks", .is (.ref ar))])
      (cinv := fun i => [(hd, .lst ((q.filter (notN (Txt.upper r.2)) ++ ((othersOf q r).take i).map fun o => (r.2, o)).map encR)), (ar, .tab prog w n kvs)]) (EvS.list hA.hh (Ev.name (by kernel_rfl)) (list_le (by lia))) ?_ ?_ ?_ ?_ ?_ ?_ (fun _ => rfl)
    · intro o _
      exact Tgt.name (.inl rfl)
    · exact sub_cons (by kernel_rfl) (sub_cons (by kernel_rfl) (sub_cons (by kernel_rfl) (sub_cons (by kernel_rfl) sub_nil)))
    · simp only [List.take_zero, List.map_nil, List.append_nil]
      exact List.Sublist.refl _
    · intro i; rfl
    · intro i o ho _ X''
      have hom : o ∈ othersOf q r := List.mem_of_getElem? ho
      have hot : TOk H o := by
        unfold othersOf at hom
        obtain ⟨r', hr', e⟩ := List.mem_map.mp (List.mem_filter.mp hom).1
        rw [← e]
        exact (hq r' (List.mem_filter.mp hr').1).2
      have e2 : ((othersOf q r).take (i + 1)).map (fun o => (r.2, o)) = ((othersOf q r).take i).map (fun o => (r.2, o)) ++ [(r.2, o)] := by
        rw [List.take_add_one, ho, List.map_append]; rfl
      refine Ex.step (St1.meth (hd := hd) (n := 5) (xs := [S r.2, S o]) (Ev.name (by kernel_rfl)) hL.addM ah.fo (EvA.plain (EvL.cons (Ev.name (by kernel_rfl)) (EvL.cons (Ev.name (by kernel_rfl)) EvL.nil star_name) star_name) star_name) (addheader_law hL.hE ah hrm.2.s hot.s ?_ hot.j hot.jv) (hA.le (by lia)) (CsOk.two hw hne)) (Ex.nil (.inl ⟨.inl rfl, trivial, rfl, ?_, ?_⟩))
      · rw [List.length_map, List.length_append, List.length_map, List.length_take]
        have := List.length_filter_le (notN (Txt.upper r.2)) q
        lia
      · exact sub_cons (by kernel_rfl) (sub_cons (by kernel_rfl) (sub_cons (by kernel_rfl) (sub_cons (by kernel_rfl) sub_nil)))
      · rw [e2, ← List.append_assoc, List.map_append (l₂ := [(r.2, o)])]
        exact List.Sublist.refl _
    · intro _
      refine Ex.nil (.inl ⟨.inl rfl, trivial, rfl, ?_, ?_⟩)
      · exact sub_cons (by kernel_rfl) (sub_cons (by kernel_rfl) (sub_cons (by kernel_rfl) sub_nil))
      · rw [List.take_length]
        exact List.Sublist.refl _
  · intro _
    refine Ex.nil ⟨Or.inr ⟨rfl, rfl⟩, fun p hp => ?_⟩
    rw [List.mem_singleton.mp hp]
    rw [List.take_of_length_le (Nat.le_refl _)]
    exact .head _
end
end Mine
set_option maxRecDepth 100000
set_option maxHeartbeats 2000000
namespace Mine
open PySem PySem.W PyProof.Rows PySem.Calls

/-! what _law_change makes, as functions of rows -/
noncomputable def thereOf (q : List Row) (r : Row) : Bool := ((q.filter (isN (Txt.upper r.2))).map (·.2)).any fun y => decide (y = r.1)
noncomputable def zOf (q rows : List Row) : List (Row × Bool) := rows.map fun r => (r, thereOf q r)
noncomputable def placeOf (rkT : Row → Nat) (rows : List Row) (d : Row) : Nat := (rows.filter fun r => decide (rkT r < rkT d)).length
noncomputable def maxI (l : List Int) : Int := l.foldr (fun a b => if a > b then a else b) 0
theorem maxI_ge : ∀ {l : List Int} {a : Int}, a ∈ l → a ≤ maxI l
  | b :: l, a, h => by
    show a ≤ if b > maxI l then b else maxI l
    rcases List.mem_cons.mp h with rfl | h
    · split <;> lia
    · have := maxI_ge h
      split <;> lia
theorem maxI_mem : ∀ {l : List Int}, (0 : Int) ∈ l ∨ l = [] → maxI l = 0 ∨ maxI l ∈ l
  | [], _ => .inl rfl
  | b :: l, _ => by
    have e : maxI (b :: l) = if b > maxI l then b else maxI l := rfl
    rw [e]
    split
    · exact .inr (.head _)
    · rcases Classical.em (maxI l = 0) with h | h
      · exact .inl h
      · have : ∀ {l : List Int}, maxI l = 0 ∨ maxI l ∈ l := by
          intro l
          induction l with
          | nil => exact .inl rfl
          | cons c l ih =>
            have e : maxI (c :: l) = if c > maxI l then c else maxI l := rfl
            rw [e]
            split
            · exact .inr (.head _)
            · exact ih.imp id fun h => .tail _ h
        exact (this (l := l)).imp id fun h => .tail _ h
theorem maxI_in {l : List Int} (h : (0 : Int) ∈ l) : maxI l ∈ l := by
  rcases maxI_mem (.inl h) with e | e
  · rw [e]; exact h
  · exact e
noncomputable def beginOf (bs : List Int) (p : Nat) : Nat := (maxI (bs.filter fun i => decide (i ≤ (p : Int)))).toNat
noncomputable def endOf (bs : List Int) (lo : Nat) : Nat := ((((bs.filter fun i => decide (i ≥ (lo : Int))) ++ [0])[0]?).getD 0).toNat
noncomputable def lostP (p : Row × Bool) : Bool := !decide (p.1.2 = "") && !p.2
noncomputable def lostOf (z : List (Row × Bool)) (b : Nat) : List Row := ((z.drop b).filter lostP).map (·.1)
noncomputable def candUp (z : List (Row × Bool)) (b kind : Nat) (d : Row) : List Row := lostOf z b ++ (if decide (kind = 0) then [d] else [])
noncomputable def candDown (z : List (Row × Bool)) (e : Nat) : List Row := ((z.take e).filter (·.2)).map (·.1)
noncomputable def lastOne {α : Type} (l : List α) : List α := l.drop (l.length - 1)
noncomputable def swapR (r : Row) : Row := (r.2, r.1)
noncomputable def isUp (kind : Nat) (d : Row) : Bool := decide (kind = 0) || (decide (kind = 2) && decide (d.2 = ""))
noncomputable def changeQ (rkT rkK : Row → Nat) (log q : List Row) (kind : Nat) (d : Row) : List Row :=
  let rows := sortBy rkT log
  let z := zOf q rows
  let bs := bridgesL z z.length
  let p := placeOf rkT rows d
  if isUp kind d then q ++ (lastOne (sortBy rkK (candUp z (beginOf bs p) kind d))).map swapR
  else if decide (kind = 2) && thereOf q d then ((sortBy rkK [d]).take 1).foldl goesQ q
  else ((sortBy rkK (candDown z (endOf bs (p + kind / 2)))).take 1).foldl goesQ q
noncomputable def changeL (log : List Row) (kind : Nat) (d : Row) : List Row := if kind = 2 then log.filter (notN (Txt.upper d.1)) else log.filter (notN d.1) ++ [d]

theorem range_pick {β γ : Type} (P : β → Bool) (F : β → γ) (d : γ) : ∀ (l : List β), ((List.range l.length).filter fun k => (l[k]?).elim false P).map (fun k => (l[k]?).elim d F) = (l.filter P).map F
  | [] => rfl
  | x :: l => by
    rw [List.length_cons, List.range_succ_eq_map, List.filter_cons, List.filter_map]
    have ih := range_pick P F d l
    have e1 : ((fun k => ((x :: l)[k]?).elim false P) ∘ Nat.succ) = fun k => (l[k]?).elim false P := by funext k; simp
    have e2 : ∀ m : List Nat, (m.map Nat.succ).map (fun k => ((x :: l)[k]?).elim d F) = m.map fun k => (l[k]?).elim d F := fun m => by rw [List.map_map]; rfl
    have e3 : (((x :: l)[0]?).elim false P) = P x := rfl
    rw [e1, e3]
    cases hP : P x with
    | true => simp only [if_true, List.map_cons, e2, ih, List.filter_cons, hP]; rfl
    | false => simp only [Bool.false_eq_true, if_false, e2, ih, List.filter_cons, hP]
theorem pick_last {ds : List PyData} : pick ds (some (-1)) none = lastOne ds := by
  unfold pick lastOne
  simp only [Option.elim_none, Option.elim_some]
  have : clipAt ds.length (-1) = ds.length - 1 := by
    unfold clipAt
    first | rfl | (simp; lia)
  rw [this]
  exact List.take_of_length_le (by rw [List.length_drop]; exact Nat.le_refl _)

section
variable {prog : Program} {w : World} {A : Around} {G : Gn} {H : Hx} {X W : Addr → Prop} {env : Env} {σ : List (Str × VD)} {cs cs' ccs ccs' : List (Addr × Cell)} {s : Shared} {E : Value → Shared → Prop}
theorem CsOk.upd {a : Addr} {c c' : Cell} (u : CU a c c' cs cs') (nd : (cs.map (·.1)).Nodup) (hw : W a) (hs : ∀ p, p ∈ ccs → p ∈ cs) (hn : (ccs.map (·.1)).Nodup) : CsOk X W env [a] cs cs' ccs [(a, c')] :=
  ⟨hs, fun _ => hn, fun b h => by rw [List.mem_singleton.mp h]; exact hw, fun b h => by rw [List.mem_singleton.mp h]; exact List.mem_map_of_mem u.mem, fun p h => by
    rcases u.new nd p h with rfl | ⟨h1, h2⟩
    · exact .inl (.head _)
    · exact .inr ⟨h1, fun q => h2 (List.mem_singleton.mp q)⟩, u.keys⟩
theorem bind5 {fd : FuncData} {x1 x2 x3 x4 x5 : Str} {d1 d2 d3 d4 d5 : VD} (h : ∀ v1 v2 v3 v4 v5, bindArgs fd ⟨[v1, v2, v3, v4, v5], []⟩ = (pure [(x1, v1), (x2, v2), (x3, v3), (x4, v4), (x5, v5)] : Sem (List (Str × Value)))) : ∀ A X s vs, Ok G X s → AtL G X s.heap vs [d1, d2, d3, d4, d5] →
    wpAny (model prog w) A (bindArgs fd ⟨vs, []⟩) (fun bs s' => QQ G s s' ∧ bs.map (·.1) = ([(x1, d1), (x2, d2), (x3, d3), (x4, d4), (x5, d5)] : List (Str × VD)).map (·.1) ∧ AtL G X s'.heap (bs.map (·.2)) (([(x1, d1), (x2, d2), (x3, d3), (x4, d4), (x5, d5)] : List (Str × VD)).map (·.2))) FF s := by
  intro A X s vs i r
  obtain _ | ⟨r1, _ | ⟨r2, _ | ⟨r3, _ | ⟨r4, _ | ⟨r5, _ | _⟩⟩⟩⟩⟩ := r
  rw [h]
  exact wpAny_pure ⟨QS.refl s, rfl, .cons r1 (.cons r2 (.cons r3 (.cons r4 (.cons r5 .nil))))⟩
/-- what the change asks of the rows -/
structure ChOk (H : Hx) (kvs : List (Str × PyData)) (keyT keyK : Row → PyData) (rkT rkK : Row → Nat) (log q : List Row) (kind : Nat) (d : Row) : Prop where
  k3 : kind < 3
  lg : ∀ r, r ∈ log → TOk H r.1 ∧ TOk H r.2
  qk : ∀ r, r ∈ q → TOk H r.1 ∧ TOk H r.2
  dd : TOk H d.1 ∧ TOk H d.2
  ll : log.length < 60
  ql : q.length < 60
  tv : ∀ r, r ∈ log ∨ r = d → ∃ l, kvs.lookup r.1 = some (.list l) ∧ keyT r = .list l
  tn : (log.map rkT).Nodup
  tlt : ∀ a b, a ∈ log → b ∈ log ∨ b = d → ltd (keyT a) (keyT b) = some (decide (rkT a < rkT b))
  td : ∀ r, r ∈ log ∨ r = d → (keyT r).depth ≤ 16
  inl : kind = 2 → (sortBy rkT log)[placeOf rkT (sortBy rkT log) d]? = some d
  up : isUp kind d = true → LeastOk kvs keyK rkK (candUp (zOf q (sortBy rkT log)) (beginOf (bridgesL (zOf q (sortBy rkT log)) (zOf q (sortBy rkT log)).length) (placeOf rkT (sortBy rkT log) d)) kind d)
  one : kind = 2 → thereOf q d = true → isUp kind d = false → LeastOk kvs keyK rkK [d]
  down : isUp kind d = false → LeastOk kvs keyK rkK (candDown (zOf q (sortBy rkT log)) (endOf (bridgesL (zOf q (sortBy rkT log)) (zOf q (sortBy rkT log)).length) (placeOf rkT (sortBy rkT log) d + kind / 2)))
structure ChEnv (prog : Program) (w : World) (G : Gn) (H : Hx) (L : Lx) : Prop extends GoEnv prog w G H L where
  bridgesF : ∃ fd, IsFn G L.bridges (theDef 16) fd
  bridgesG : G.mg "_law_bridges" = some (.ref L.bridges)
end
end Mine
set_option maxRecDepth 100000
set_option maxHeartbeats 2000000
namespace Mine
open PySem PySem.W PyProof.Rows PySem.Calls

noncomputable def lamPosA : List Stmt → Pos
  | .Assign _ (.Call _ _ [kw] _) _ :: _ => match kw.value with
    | .Lambda _ _ _ p => p
    | _ => default
  | _ => default
section
variable {prog : Program} {w : World} {A : Around} {G : Gn} {H : Hx} {X W : Addr → Prop} {env : Env} {σ : List (Str × VD)} {cs cs' ccs ccs' : List (Addr × Cell)} {s : Shared} {E : Value → Shared → Prop}
theorem cl_nil {cells : List (Str × Addr)} : ∀ n c, ([] : List (Str × Addr)).lookup n = some c → ∃ n', n' = n ∧ cells.lookup n' = some c := fun n c e => by simp at e
theorem cl_cons {cells r : List (Str × Addr)} {n0 : Str} {a0 : Addr} (h : cells.lookup n0 = some a0) (hr : ∀ n c, r.lookup n = some c → ∃ n', n' = n ∧ cells.lookup n' = some c) : ∀ n c, ((n0, a0) :: r).lookup n = some c → ∃ n', n' = n ∧ cells.lookup n' = some c := fun n c e => by
  rw [List.lookup_cons] at e
  cases hb : n == n0 with
  | true => rw [hb] at e; cases e; exact ⟨n, rfl, by rw [beq_iff_eq.mp hb]; exact h⟩
  | false => rw [hb] at e; exact hr n c e
theorem tr_kind {x : Str} {px p pos : Pos} {m k : Nat} {j : Nat} (hl : σ.lookup x = some (I m)) (hd : (x == ("__debug__" : Str)) = false) (hu : A.units < cLine) : Tr prog w A G X W env σ cs (.Compare (.Name x px) [.Eq] [.Constant (.int (k : Int)) j p] pos) (decide (m = k)) := by
  refine Tr.conv (Tr.cmp (x := I m) (y := I k) (Ev.name hl hd) Ev.const_int (eqD (by have e : (PyData.int (m : Int)).depth = 0 := rfl; rw [e, Nat.zero_min]; lia))) ?_
  rw [eqv_int]
  exact decide_eq_decide.mpr (by lia)
theorem zero_bridge {z : List (Row × Bool)} {n : Nat} : (0 : Int) ∈ bridgesL z n := by unfold bridgesL; exact .head _
theorem change_law {L : Lx} (hL : ChEnv prog w G H L) {fd : FuncData} (h : IsFn G L.change (theDef 19) fd) (hT : HasTb G fd (lamPosA (defBody (theDef 19))) L.tChange) {lg hd ar : Addr} (h1 : ar ≠ hd) (h2 : ar ≠ lg) (h3 : lg ≠ hd) {log q : List Row} {kind : Nat} {d : Row} {n : Nat} {kvs : List (Str × PyData)} {keyT keyK : Row → PyData} {rkT rkK : Row → Nat}
    (hc : ChOk H kvs keyT keyK rkT rkK log q kind d) :
    FnG prog w G (.ref L.change) 12 [lg, hd] [(lg, .lst (log.map encR)), (hd, .lst (q.map encR)), (ar, .tab prog w n kvs)] [(lg, .lst ((changeL log kind d).map encR)), (hd, .lst ((changeQ rkT rkK log q kind d).map encR))] []
      [.hdr lg, .hdr hd, I kind, .dat (encR d), .is (.ref ar)] (.dat .none) := by
  obtain ⟨afd, ah⟩ := hL.addF
  obtain ⟨dfd, dh⟩ := hL.delF
  obtain ⟨sfd, sh⟩ := hL.setF
  obtain ⟨lfd, lh, lt⟩ := hL.leastF
  obtain ⟨gfd, gh⟩ := hL.hE.getallF
  obtain ⟨ifd, ih⟩ := hL.hE.itemsF
  obtain ⟨bfd, bh⟩ := hL.bridgesF
  obtain ⟨ofd, oh⟩ := hL.goesF
  have hG := hL.hE.glm.toGOk
  have hB := hL.hE.bis
  obtain ⟨nm, qn, kd, doc, pm, cv, ct, rfl⟩ := h.is
  have hcv : cv = .ref L.tChange.c := hT.code
  subst hcv
  refine FnG.of_def (σ := [("log", .hdr lg), ("queue", .hdr hd), ("kind", I kind), ("deed", .dat (encR d)), ("ranks", .is (.ref ar))]) hG (h.def rfl rfl rfl) (show ([("log" : Str), ("queue" : Str), ("kind" : Str), ("deed" : Str), ("ranks" : Str)]).Nodup by decide) (fun k x hx => ?_) (bind5 fun _ _ _ _ _ => rfl) fun A L' X hA => ?_
  · simp only [List.map_cons, List.map_nil, List.mem_cons, List.not_mem_nil, or_false] at hx
    rcases hx with rfl | rfl | rfl | rfl | rfl
    · exact .inl rfl
    · exact .inr ⟨rfl, rfl⟩
    · exact .inr ⟨rfl, rfl⟩
    · exact .inr ⟨rfl, rfl⟩
    · exact .inr ⟨rfl, rfl⟩
  have hun := hA.un
  have hperm : (sortBy rkT log).Perm log := sortBy_perm
  have hrl : (sortBy rkT log).length < 60 := by rw [hperm.length_eq]; exact hc.ll
  have hrm : ∀ r, r ∈ sortBy rkT log → r ∈ log := fun r hr => hperm.subset hr
  have nd3 : (([(lg, Cell.lst (log.map encR)), (hd, .lst (q.map encR)), (ar, .tab prog w n kvs)] : List (Addr × Cell)).map (·.1)).Nodup := by
    simp only [List.map_cons, List.map_nil, List.nodup_cons, List.mem_cons, List.not_mem_nil, or_false, not_or, not_false_eq_true, List.nodup_nil, and_true]
    exact ⟨⟨h3, fun e => h2 e.symm⟩, fun e => h1 e.symm⟩
  -- rows
  refine Ex.step (St1.assign (d := .dat (.list ((sortBy rkT log).map encR))) ?_ (.inr ⟨rfl, rfl⟩)) ?_
  · refine Ev.sortedK (xs := log) (enc := encR) (key := keyT) (rk := rkT) (κ := oneType') (x := "row") (σc := [("ranks", .is (.ref ar))]) (clos := [("ranks", L' + 1 + 1 + 1 + 1)]) (n := 3) (t := L.tChange) (Ev.bi hG hB.sorted') ?_ hL.hE.glm hT.mem rfl hT.pos hT.qual rfl rfl rfl rfl rfl ?_ rfl (fun _ _ _ _ => rfl) ?_ ?_ (hA.le (by lia)) ?_ ?_ (by have := hc.ll; lia) hc.tn (fun a b ha hb _ => hc.tlt a b ha (.inl hb)) (fun a ha => hc.td a (.inl ha)) star_call
    · exact Ev.meth (hd := lg) (n := 2) (xs := []) (ccs := [(lg, .lst (log.map encR))]) (Ev.name (by kernel_rfl)) hL.hE.itemsM ih.fo EvA.nil (items_law hL.hE (by rw [List.length_map]; exact list_le (by have := hc.ll; lia))) (hA.le (by lia)) (CsOk.quiet (cs_cons (.head _) no_cs) (fun _ => by simp))
    · decide
    · exact cl_cons (by kernel_rfl) cl_nil
    · intro y d e
      rw [List.lookup_cons] at e
      cases hb : y == "ranks" with
      | false => rw [hb] at e; cases e
      | true =>
        rw [hb] at e; cases e
        have hy := beq_iff_eq.mp hb
        subst hy
        exact ⟨by kernel_rfl, rfl, rfl, by decide, _, rfl, rfl⟩
    · intro A C X' g c r hA' hr
      obtain ⟨l, e1, ek⟩ := hc.tv r (.inl hr)
      rw [ek]
      exact Ev.subTab (k := r.1) (by kernel_rfl) (.tail _ (.tail _ (.head _))) (kv_item (rk := r) (i := 0) (by kernel_rfl) (by decide) rfl (by decide)) e1
    · refine .lst _ fun k hk => ?_
      obtain ⟨r, hr, rfl⟩ := List.mem_map.mp hk
      obtain ⟨l, e1, ek⟩ := hc.tv r (.inl hr)
      exact ⟨l, ek⟩
  have hinl := hc.inl
  have hup := hc.up
  have hone := hc.one
  have hdown := hc.down
  have hres : changeQ rkT rkK log q kind d = (if isUp kind d then q ++ (lastOne (sortBy rkK (candUp (zOf q (sortBy rkT log)) (beginOf (bridgesL (zOf q (sortBy rkT log)) (zOf q (sortBy rkT log)).length) (placeOf rkT (sortBy rkT log) d)) kind d))).map swapR
    else if decide (kind = 2) && thereOf q d then ((sortBy rkK [d]).take 1).foldl goesQ q
    else ((sortBy rkK (candDown (zOf q (sortBy rkT log)) (endOf (bridgesL (zOf q (sortBy rkT log)) (zOf q (sortBy rkT log)).length) ((placeOf rkT (sortBy rkT log) d) + kind / 2)))).take 1).foldl goesQ q) := rfl
  rw [hres]
  generalize hrows : sortBy rkT log = rows at *
  -- there
  have hz1 : rows.map encR = (zOf q rows).map fun p => encR p.1 := by unfold zOf; rw [List.map_map]; rfl
  refine Ex.step (St1.assign (d := .dat (.list ((zOf q rows).map fun p => .bool p.2))) ?_ (.inr ⟨rfl, rfl⟩)) ?_
  · refine Ev.conv (Ev.comp (x := "row") (xs := rows) (enc := encR) (f := fun r => .bool (thereOf q r)) (p := fun _ => true) (cl := [("queue", L' + 1)]) (σc := [("queue", .hdr hd)]) rfl (by decide) rfl (by decide) rfl (cl_cons (by kernel_rfl) cl_nil) (.cons (by kernel_rfl) rfl rfl rfl rfl .nil) (EvS.list hA.hh (Ev.name (by kernel_rfl)) (list_le (by lia))) (fun C X' r hr => TrL.nil) (fun C X' r hr _ => ?_)) ?_
    · have hro := hc.lg r (hrm r hr)
      refine Ev.conv (Ev.cmp (x := S r.1) (y := .dat (.list (((q.filter (isN (Txt.upper r.2))).map (·.2)).map PyData.str))) (kv_item (rk := r) (i := 0) (by kernel_rfl) (by decide) rfl (by decide)) ?_ (inD ?_)) ?_
      · exact Ev.meth (hd := hd) (n := 5) (xs := [S (Txt.upper r.2)]) (ccs := [(hd, .lst (q.map encR))]) (Ev.name (by kernel_rfl)) hL.hE.getallM gh.fo (EvA.plain (EvL.cons (Ev.upper (kv_item (rk := r) (i := 1) (by kernel_rfl) (by decide) rfl (by decide)) (short_fits hro.2.s.upLen) hro.2.s.upOk) EvL.nil star_call) star_call) (getall_law' hL.hE hro.2.up (fun r hr => (hc.qk r hr).1.s) (by have := hc.ql; lia)) (hA.le (by lia)) (CsOk.quiet (cs_cons (.tail _ (.head _)) no_cs) (fun _ => by simp))
      · have e1 : (PyData.str r.1).depth = 0 := rfl
        rw [e1]
        lia
      · unfold thereOf
        rw [List.any_map]
        congr 2
    · unfold zOf
      rw [List.map_map, List.filter_eq_self.mpr (fun _ _ => rfl)]
      rfl
  have hzl : (zOf q rows).length = rows.length := by unfold zOf; rw [List.length_map]
  have hz3 : ∀ (i : Nat) (p : Row × Bool), (zOf q rows)[i]? = some p → rows[i]? = some p.1 ∧ p.2 = thereOf q p.1 := fun i p e => by
    unfold zOf at e
    rw [List.getElem?_map] at e
    cases hr : rows[i]? with
    | none => rw [hr] at e; cases e
    | some r => rw [hr] at e; cases e; exact ⟨rfl, rfl⟩
  rw [hz1]
  generalize hz : zOf q rows = z at *
  -- bridges
  refine Ex.step (St1.assign (d := .dat (.list ((bridgesL z z.length).map .int))) ?_ (.inl rfl)) ?_
  · exact Ev.call (n := 3) (ccs := []) (Ev.global hG hL.bridgesG rfl) bh.fo (EvA.plain (EvL.cons (Ev.name (by kernel_rfl)) (EvL.cons (Ev.name (by kernel_rfl)) EvL.nil star_name) star_name) star_name) (bridges_law hG hB bh (by lia)) (hA.le (by lia)) CsOk.none
  generalize hbs : bridgesL z z.length = bs at *
  -- place
  have hdt : ∃ l, kvs.lookup d.1 = some (.list l) ∧ keyT d = .list l := hc.tv d (.inr rfl)
  have hpl : placeOf rkT rows d ≤ rows.length := by unfold placeOf; exact List.length_filter_le _ _
  refine Ex.step (St1.assign (d := I (placeOf rkT rows d)) ?_ (.inr ⟨rfl, rfl⟩)) ?_
  · refine Ev.conv (Ev.len (ds := (rows.filter fun r => decide (rkT r < rkT d)).map encR) (Ev.bi hG hB.len') ?_ ?_ star_comp) (by rw [List.length_map]; rfl)
    · refine Ev.comp (x := "row") (xs := rows) (enc := encR) (f := encR) (p := fun r => decide (rkT r < rkT d)) (cl := [("ranks", L' + 1 + 1 + 1 + 1), ("deed", L' + 1 + 1 + 1)]) (σc := [("deed", .dat (encR d)), ("ranks", .is (.ref ar))]) rfl (by decide) rfl (by decide) rfl (cl_cons (by kernel_rfl) (cl_cons (by kernel_rfl) cl_nil)) (.cons (by kernel_rfl) rfl rfl rfl rfl (.cons (by kernel_rfl) rfl rfl rfl rfl .nil)) (EvS.list hA.hh (Ev.conv (Ev.name (by kernel_rfl)) (by rw [hz1])) (list_le (by lia))) (fun C X' r hr => TrL.one ?_) (fun C X' r hr _ => ?_)
      · obtain ⟨l0, e0, k0⟩ := hdt
        obtain ⟨l, e1, k1⟩ := hc.tv r (.inl (hrm r hr))
        refine Tr.cmp (x := .dat (.list l)) (y := .dat (.list l0)) (Ev.subTab (k := r.1) (by kernel_rfl) (.tail _ (.tail _ (.head _))) (kv_item (rk := r) (i := 0) (by kernel_rfl) (by decide) rfl (by decide)) e1) (Ev.subTab (k := d.1) (by kernel_rfl) (.tail _ (.tail _ (.head _))) (kv_item (rk := d) (i := 0) (by kernel_rfl) (by decide) rfl (by decide)) e0) ?_
        rw [← k1, ← k0]
        refine ltD (hc.tlt r d (hrm r hr) (.inr rfl)) ?_
        have := hc.td r (.inl (hrm r hr))
        have : min (keyT r).depth (keyT d).depth ≤ (keyT r).depth := Nat.min_le_left _ _
        show A.units + _ < _
        lia
      · exact Ev.name (by kernel_rfl)
    · rw [List.length_map]
      have := List.length_filter_le (fun r => decide (rkT r < rkT d)) rows
      lia
  generalize hp : placeOf rkT rows d = p at *
  have k3 := hc.k3
  have hdd := hc.dd
  have hll := hc.ll
  have hql := hc.ql
  have hw2 : ∀ b, b ∈ [lg, hd] → callW (fnOf (theDef 19) nm qn kd doc pm (.ref L.tChange.c) ct) L' L.change [lg, hd] b := fun b hb => .inr hb
  have hcl : (changeL log kind d).length < 61 := by
    unfold changeL
    split
    · exact Nat.lt_of_le_of_lt (List.length_filter_le _ _) (by lia)
    · rw [List.length_append]
      have := List.length_filter_le (notN d.1) log
      simp only [List.length_cons, List.length_nil]
      lia
  have nd3' : (([(lg, Cell.lst ((changeL log kind d).map encR)), (hd, .lst (q.map encR)), (ar, .tab prog w n kvs)] : List (Addr × Cell)).map (·.1)).Nodup := nd3
  refine Ex.ite (c := decide (kind = 2)) (Q1 := At (callW (fnOf (theDef 19) nm qn kd doc pm (.ref L.tChange.c) ct) L' L.change [lg, hd]) [("place", I p), ("bridges", .dat (.list (bs.map .int))), ("there", .dat (.list (z.map fun p => .bool p.2))), ("rows", .dat (.list (z.map fun p => encR p.1))), ("log", .hdr lg), ("queue", .hdr hd), ("kind", I kind), ("deed", .dat (encR d)), ("ranks", .is (.ref ar))] [(lg, .lst ((changeL log kind d).map encR)), (hd, .lst (q.map encR)), (ar, .tab prog w n kvs)]) (tr_kind (by kernel_rfl) (by decide) (by lia)) (fun hk => ?_) (fun hk => ?_) (fun W' σ' cs' hq => ?_) (fun fd _ _ _ ne hq => absurd hq.1 ne)
  · have hk2 : kind = 2 := by simpa using hk
    have e : changeL log kind d = log.filter (notN (Txt.upper d.1)) := by unfold changeL; rw [if_pos hk2]
    rw [e]
    exact Ex.step (St1.delH (k := S (Txt.upper d.1)) hL.ops (Ev.name (by kernel_rfl)) (Ev.upper (kv_item (rk := d) (i := 0) (by kernel_rfl) (by decide) rfl (by decide)) (short_fits hdd.1.s.upLen) hdd.1.s.upOk) (delitem_law hL.hE dh hdd.1.up (fun r hr => (hc.lg r hr).1.s) (by lia)) (hA.le (by lia)) (CsOk.upd .head nd3 (hw2 _ (.head _)) (cs_cons (.head _) no_cs) (by simp))) Ex.end
  · have hk2 : ¬ kind = 2 := by simpa using hk
    have e : changeL log kind d = log.filter (notN d.1) ++ [d] := by unfold changeL; rw [if_neg hk2]
    rw [e]
    exact Ex.step (St1.setH (k := S d.1) (d := S d.2) hL.ops (kv_item (rk := d) (i := 1) (by kernel_rfl) (by decide) rfl (by decide)) (Ev.name (by kernel_rfl)) (kv_item (rk := d) (i := 0) (by kernel_rfl) (by decide) rfl (by decide)) (setitem_law hL.hE hL.ops dh sh hdd.1.s hdd.2.s (fun r hr => (hc.lg r hr).1.s) (by lia)) (hA.le (by lia)) (CsOk.upd .head nd3 (hw2 _ (.head _)) (cs_cons (.head _) no_cs) (by simp)) (by kernel_rfl)) Ex.end
  obtain ⟨_, rfl, rfl, rfl⟩ := hq
  generalize hlog2 : changeL log kind d = log2 at *
  have trUp : ∀ {pos p1 p2 p3 p4 p5 p6 p7 p8 p9 p10 p11 p12 : Pos}, Tr prog w A G X (callW (fnOf (theDef 19) nm qn kd doc pm (.ref L.tChange.c) ct) L' L.change [lg, hd]) (callEnvC (fnOf (theDef 19) nm qn kd doc pm (.ref L.tChange.c) ct) L' L.change) ([("place", I p), ("bridges", .dat (.list (bs.map .int))), ("there", .dat (.list (z.map fun p => .bool p.2))), ("rows", .dat (.list (z.map fun p => encR p.1))), ("log", .hdr lg), ("queue", .hdr hd), ("kind", I kind), ("deed", .dat (encR d)), ("ranks", .is (.ref ar))])
      [(lg, .lst (log2.map encR)), (hd, .lst (q.map encR)), (ar, .tab prog w n kvs)]
      (.BoolOp .Or [.Compare (.Name "kind" p1) [.Eq] [.Constant (.int 0) 0 p2] p3, .BoolOp .And [.Compare (.Name "kind" p4) [.Eq] [.Constant (.int 2) 0 p5] p6, .Compare (.Subscript (.Name "deed" p7) (.Constant (.int 1) 0 p8) p9) [.Eq] [.Constant (.str "") 0 p10] p11] p12] pos) (isUp kind d) := by
    intro pos p1 p2 p3 p4 p5 p6 p7 p8 p9 p10 p11 p12
    refine Tr.or (tr_kind (k := 0) (by kernel_rfl) (by decide) (by lia)) fun _ => Tr.and (tr_kind (k := 2) (by kernel_rfl) (by decide) (by lia)) fun _ => ?_
    refine Tr.conv (Tr.cmp (x := S d.2) (y := S "") (kv_item (rk := d) (i := 1) (by kernel_rfl) (by decide) rfl (by decide)) Ev.const_str (eqD ?_)) (eqv_str _ _)
    have e1 : (PyData.str d.2).depth = 0 := rfl
    lia
  have hb0 : (0 : Int) ∈ bs.filter fun i => decide (i ≤ (p : Int)) := List.mem_filter.mpr ⟨by rw [← hbs]; exact zero_bridge, decide_eq_true (by lia)⟩
  have hnd : ∀ {c1 c2 c3 : Cell}, (([(lg, c1), (hd, c2), (ar, c3)] : List (Addr × Cell)).map (·.1)).Nodup := fun {_ _ _} => nd3
  cases hU : isUp kind d with
  | true =>
    refine Ex.thenLast (Tr.conv trUp hU) ?_
    have hle := hup hU
    generalize hcand : candUp z (beginOf bs p) kind d = cand at *
    have hbm := maxI_in hb0
    have hbp : maxI (bs.filter fun i => decide (i ≤ (p : Int))) ≤ (p : Int) := by simpa using (List.mem_filter.mp hbm).2
    have hb00 : 0 ≤ maxI (bs.filter fun i => decide (i ≤ (p : Int))) := maxI_ge hb0
    have hbeq : maxI (bs.filter fun i => decide (i ≤ (p : Int))) = ((beginOf bs p : Nat) : Int) := by unfold beginOf; lia
    refine Ex.step (St1.assign (d := I (beginOf bs p)) ?_ (.inl rfl)) ?_
    · refine Ev.conv (Ev.callB (Ev.bi hG hB.max') (EvL.cons (x := .dat (.list ((bs.filter fun i => decide (i ≤ (p : Int))).map .int))) ?_ EvL.nil star_comp) (FnB.to (maxL hA.hh hbm fun a ha => maxI_ge ha)) star_comp) (by rw [hbeq])
      refine Ev.comp (x := "i") (xs := bs) (enc := PyData.int) (f := PyData.int) (p := fun i => decide (i ≤ (p : Int))) (cl := [("place", L' + 1 + 1 + 1 + 1 + 1 + 1 + 1)]) (σc := [("place", I p)]) rfl (by decide) rfl (by decide) rfl (cl_cons (by kernel_rfl) cl_nil) (.cons (by kernel_rfl) rfl rfl rfl rfl .nil) (EvS.list hA.hh (Ev.name (by kernel_rfl)) (list_le ?_)) (fun C X' r hr => TrL.one ?_) (fun C X' r hr _ => ?_)
      · rw [← hbs]
        unfold bridgesL
        rw [List.length_cons, List.length_map]
        have := List.length_filter_le (fun i => decide (cntAt z (i + 1) = 0)) (List.range z.length)
        rw [List.length_range] at this
        lia
      · exact Tr.cmp (x := I r) (y := I p) (Ev.name (by kernel_rfl)) (Ev.name (by kernel_rfl)) leI
      · exact Ev.name (by kernel_rfl)
    have hbz : beginOf bs p ≤ z.length := by lia
    generalize hb : beginOf bs p = b at *
    refine Ex.step (St1.comp (x := "i") (xs := List.range (z.drop b).length) (enc := fun k => PyData.int ((b : Int) + (k : Int))) (f := fun k => ((z.drop b)[k]?).elim PyData.none fun p => encR p.1) (p := fun k => ((z.drop b)[k]?).elim false lostP)
      (cl := [("there", L' + 1 + 1 + 1 + 1 + 1 + 1), ("rows", L' + 1 + 1 + 1 + 1 + 1)]) (σc := [("there", .dat (.list (z.map fun p => .bool p.2))), ("rows", .dat (.list (z.map fun p => encR p.1)))]) rfl rfl rfl (by decide) rfl (by decide) rfl (cl_cons (by kernel_rfl) (cl_cons (by kernel_rfl) cl_nil)) (.cons (by kernel_rfl) rfl rfl rfl rfl (.cons (by kernel_rfl) rfl rfl rfl rfl .nil)) ?_ (fun C X' k hk => TrL.one ?_) (fun C X' k hk hpk => ?_)) ?_
    · have := EvS.range2 (prog := prog) (w := w) (A := A) (G := G) (X := X) (W := (callW (fnOf (theDef 19) nm qn kd doc pm (.ref L.tChange.c) ct) L' L.change [lg, hd])) (env := callEnvC (fnOf (theDef 19) nm qn kd doc pm (.ref L.tChange.c) ct) L' L.change) (σ := ("begin", I b) :: [("place", I p), ("bridges", .dat (.list (bs.map .int))), ("there", .dat (.list (z.map fun p => .bool p.2))), ("rows", .dat (.list (z.map fun p => encR p.1))), ("log", .hdr lg), ("queue", .hdr hd), ("kind", I kind), ("deed", .dat (encR d)), ("ranks", .is (.ref ar))]) (cs := [(lg, .lst (log2.map encR)), (hd, .lst (q.map encR)), (ar, .tab prog w n kvs)]) (f := "range") (p := ⟨164, 33, 164, 38⟩) (pos := ⟨164, 33, 164, 56⟩) (e1 := .Name "begin" ⟨164, 39, 164, 44⟩) (e2 := .Call (.Name "len" ⟨164, 46, 164, 49⟩) [.Name "rows" ⟨164, 50, 164, 54⟩] [] ⟨164, 46, 164, 55⟩) (a := (b : Int)) (b := (z.length : Int)) hA.hh (Ev.bi hG hB.range') (EvL.cons (Ev.name (by kernel_rfl)) (EvL.cons (Ev.conv (Ev.len (ds := z.map fun p => encR p.1) (Ev.bi hG hB.len') (Ev.name (by kernel_rfl)) (by rw [List.length_map]; lia) star_name) (by rw [List.length_map])) EvL.nil star_call) star_name) (by lia) (by lia) (by lia) (by lia) rfl star_name
      have e : ((z.length : Int) - (b : Int)).toNat = (z.drop b).length := by rw [List.length_drop]; lia
      rw [e] at this
      exact this
    · have hkl : k < (z.drop b).length := List.mem_range.mp hk
      obtain ⟨pr, hpr⟩ : ∃ pr, (z.drop b)[k]? = some pr := ⟨(z.drop b)[k], by simp [hkl]⟩
      have hpr2 : z[b + k]? = some pr := by rw [← hpr, List.getElem?_drop]
      rw [hpr]
      simp only [Option.elim_some]
      have ei : ((b : Int) + (k : Int)).toNat = b + k := by lia
      have hlt : b + k < 1000 := by rw [List.length_drop] at hkl; lia
      refine Tr.and (a := !decide (pr.1.2 = "")) (b := !pr.2) ?_ (fun _ => ?_)
      · refine Tr.conv (Tr.cmp (x := S pr.1.2) (y := S "") (Ev.sub (x := .dat (.tuple [.str pr.1.1, .str pr.1.2])) (y := I 1) (Ev.sub (x := .dat (.list (z.map fun p => encR p.1))) (y := I ((b : Int) + (k : Int))) (Ev.name (by kernel_rfl)) (Ev.name (by kernel_rfl)) (itL (by lia) (by lia) (by rw [ei, List.getElem?_map, hpr2]; rfl))) Ev.const_int (itT (by decide) (by decide) (j := 1) rfl rfl)) Ev.const_str (neD ?_)) (by rw [eqv_str])
        have e1 : (PyData.str pr.1.2).depth = 0 := rfl
        lia
      · exact Tr.not (Tr.subB (Ev.sub (x := .dat (.list (z.map fun p => .bool p.2))) (y := I ((b : Int) + (k : Int))) (Ev.name (by kernel_rfl)) (Ev.name (by kernel_rfl)) (itL (by lia) (by lia) (by rw [ei, List.getElem?_map, hpr2]; rfl))))
    · have hkl : k < (z.drop b).length := List.mem_range.mp hk
      obtain ⟨pr, hpr⟩ : ∃ pr, (z.drop b)[k]? = some pr := ⟨(z.drop b)[k], by simp [hkl]⟩
      have hpr2 : z[b + k]? = some pr := by rw [← hpr, List.getElem?_drop]
      rw [hpr]
      have ei : ((b : Int) + (k : Int)).toNat = b + k := by lia
      have hlt : b + k < 1000 := by rw [List.length_drop] at hkl; lia
      exact Ev.sub (x := .dat (.list (z.map fun p => encR p.1))) (y := I ((b : Int) + (k : Int))) (Ev.name (by kernel_rfl)) (Ev.name (by kernel_rfl)) (itL (by lia) (by lia) (by rw [ei, List.getElem?_map, hpr2]; rfl))
    rw [range_pick lostP (fun p : Row × Bool => encR p.1) PyData.none (z.drop b)]
    have hlost : ((z.drop b).filter lostP).map (fun p => encR p.1) = (lostOf z b).map encR := by unfold lostOf; rw [List.map_map]; rfl
    rw [hlost]
    have hll2 : (lostOf z b).length ≤ 60 := by
      unfold lostOf
      rw [List.length_map]
      have := List.length_filter_le lostP (z.drop b)
      rw [List.length_drop] at this
      lia
    have hsl : (sortBy rkK cand).length < 64 := by rw [(sortBy_perm (rk := rkK) (xs := cand)).length_eq]; exact hle.h64
    have hmem : ∀ r, r ∈ sortBy rkK cand → TOk H r.1 ∧ TOk H r.2 := fun r hr => by
      have hr' := (sortBy_perm (rk := rkK) (xs := cand)).subset hr
      rw [← hcand] at hr'
      unfold candUp at hr'
      rcases List.mem_append.mp hr' with h | h
      · unfold lostOf at h
        obtain ⟨pr, hpr, rfl⟩ := List.mem_map.mp h
        have h2 := List.mem_of_mem_drop (List.mem_filter.mp hpr).1
        obtain ⟨i, hi⟩ := List.mem_iff_getElem?.mp h2
        exact hc.lg _ (hrm _ (List.mem_of_getElem? (hz3 i pr hi).1))
      · split at h
        · rw [List.mem_singleton.mp h]; exact hdd
        · simp at h
    have hlast : ∀ r, r ∈ lastOne (sortBy rkK cand) → r ∈ sortBy rkK cand := fun r hr => List.mem_of_mem_drop hr
    have hlastL : (lastOne (sortBy rkK cand)).length ≤ 1 := by unfold lastOne; rw [List.length_drop]; lia
    refine Ex.forS (fun _ => True) trivial (enc := encR) (xs := lastOne (sortBy rkK cand)) (bnd := fun r => [("key", S r.2), ("when", S r.1)])
      (inv := fun _ => [("queue", .hdr hd)])
      (cinv := fun j => [(lg, .lst (log2.map encR)), (hd, .lst ((q ++ ((lastOne (sortBy rkK cand)).take j).map swapR).map encR)), (ar, .tab prog w n kvs)]) (EvS.list hA.hh ?_ (list_le (by lia))) ?_ ?_ ?_ ?_ ?_ ?_ (fun _ => rfl)
    · have hlm : (lastOne (sortBy rkK cand)).map encR = lastOne ((sortBy rkK cand).map encR) := by unfold lastOne; rw [List.map_drop, List.length_map]
      rw [hlm, ← pick_last]
      refine Ev.sliceL (Ev.call (n := 8) (ccs := [(ar, .tab prog w n kvs)]) (Ev.global hG hL.leastG rfl) lh.fo (EvA.plain (EvL.cons (x := .dat (.list (cand.map encR))) ?_ (EvL.cons (Ev.name (by kernel_rfl)) EvL.nil star_name) star_bin) star_bin) (least_law hL.hE.glm hB lh lt hle.hv hle.h64 hle.hn hle.hlt hle.hd) (hA.le (by lia)) ?_) (Ev.conv (Ev.unary Ev.const_int negI) rfl) trivial ?_
      · have hcm : cand.map encR = (lostOf z b).map encR ++ (if decide (kind = 0) then [encR d] else []) := by
          rw [← hcand]
          unfold candUp
          rw [List.map_append]
          congr 1
          split <;> rfl
        rw [hcm]
        refine Ev.bin (x := .dat (.list ((lostOf z b).map encR))) (y := .dat (.list (if decide (kind = 0) then [encR d] else []))) (Ev.name (by kernel_rfl)) (Ev.conv (Ev.ifExp (c := decide (kind = 0)) (x := .dat (.list [encR d])) (y := .dat (.list [])) (tr_kind (k := 0) (by kernel_rfl) (by decide) (by lia)) (fun _ => EvD.list [encR d] (EvD.cons (Ev.name (by kernel_rfl)) EvD.nil star_name) (by show 1 ≤ 1000; decide)) (fun _ => EvD.list [] EvD.nil (by decide))) (by split <;> rfl)) (addL ?_)
        rw [List.length_map]
        refine list_le ?_
        have : (if decide (kind = 0) then [encR d] else []).length ≤ 1 := by split <;> simp
        lia
      · exact CsOk.quiet (cs_cons (.tail _ (.tail _ (.head _))) no_cs) (fun _ => by simp)
      · rw [List.length_map]; exact list_le (by lia)
    · intro r hr
      exact Tgt.two hA.hh (.inl rfl) (.inl rfl)
    · exact sub_cons (by kernel_rfl) sub_nil
    · simp only [List.take_zero, List.map_nil, List.append_nil]
      exact List.Sublist.refl _
    · intro j; rfl
    · intro j r hj _ X'
      have hrr := hmem r (hlast r (List.mem_of_getElem? hj))
      have e2 : ((lastOne (sortBy rkK cand)).take (j + 1)).map swapR = ((lastOne (sortBy rkK cand)).take j).map swapR ++ [swapR r] := by
        rw [List.take_add_one, hj, List.map_append]; rfl
      refine Ex.step (St1.meth (hd := hd) (n := 5) (xs := [S r.2, S r.1]) (Ev.name (by kernel_rfl)) hL.addM ah.fo (EvA.plain (EvL.cons (Ev.name (by kernel_rfl)) (EvL.cons (Ev.name (by kernel_rfl)) EvL.nil star_name) star_name) star_name) (addheader_law hL.hE ah hrr.2.s hrr.1.s ?_ hrr.1.j hrr.1.jv) (hA.le (by lia)) (CsOk.upd (.tail .head) hnd (hw2 _ (.tail _ (.head _))) (cs_cons (.tail _ (.head _)) no_cs) (by simp))) (Ex.nil (.inl ⟨.inl rfl, trivial, rfl, ?_, ?_⟩))
      · rw [List.length_map, List.length_append, List.length_map, List.length_take]
        lia
      · exact sub_cons (by kernel_rfl) sub_nil
      · rw [e2, ← List.append_assoc, List.map_append (l₂ := [swapR r])]
        exact List.Sublist.refl _
    · intro _
      refine Ex.nil ⟨Or.inr ⟨Eq.refl _, Eq.refl _⟩, fun p hp => ?_⟩
      rw [List.take_length]
      simp only [if_true] at hp
      rcases List.mem_cons.mp hp with rfl | hp
      · exact .head _
      · rw [List.mem_singleton.mp hp]; exact .tail _ (.head _)
  | false =>
    refine Ex.elseLast (Tr.conv trUp hU) ?_
    rw [if_neg Bool.false_ne_true]
    have hout : ∀ (q' : List Row) (p : Addr × Cell), p ∈ [(lg, Cell.lst (log2.map encR)), (hd, .lst (q'.map encR))] → p ∈ [(lg, Cell.lst (log2.map encR)), (hd, .lst (q'.map encR)), (ar, .tab prog w n kvs)] := fun q' p hp => by
      rcases List.mem_cons.mp hp with rfl | hp
      · exact .head _
      · rw [List.mem_singleton.mp hp]; exact .tail _ (.head _)
    have hcs : ∀ {q' : List Row}, CsOk X (callW (fnOf (theDef 19) nm qn kd doc pm (.ref L.tChange.c) ct) L' L.change [lg, hd]) (callEnvC (fnOf (theDef 19) nm qn kd doc pm (.ref L.tChange.c) ct) L' L.change) [hd] [(lg, Cell.lst (log2.map encR)), (hd, .lst (q.map encR)), (ar, .tab prog w n kvs)] [(lg, Cell.lst (log2.map encR)), (hd, .lst (q'.map encR)), (ar, .tab prog w n kvs)] [(hd, .lst (q.map encR)), (ar, .tab prog w n kvs)] [(hd, .lst (q'.map encR))] := fun {q'} =>
      CsOk.upd (.tail .head) hnd (hw2 _ (.tail _ (.head _))) (fun p hp => .tail _ hp) (by simpa using fun e => h1 e.symm)
    have trOne : ∀ {pos p1 p2 p3 p4 p5 p6 : Pos}, Tr prog w A G X (callW (fnOf (theDef 19) nm qn kd doc pm (.ref L.tChange.c) ct) L' L.change [lg, hd]) (callEnvC (fnOf (theDef 19) nm qn kd doc pm (.ref L.tChange.c) ct) L' L.change) ([("place", I p), ("bridges", .dat (.list (bs.map .int))), ("there", .dat (.list (z.map fun p => .bool p.2))), ("rows", .dat (.list (z.map fun p => encR p.1))), ("log", .hdr lg), ("queue", .hdr hd), ("kind", I kind), ("deed", .dat (encR d)), ("ranks", .is (.ref ar))])
        [(lg, .lst (log2.map encR)), (hd, .lst (q.map encR)), (ar, .tab prog w n kvs)]
        (.BoolOp .And [.Compare (.Name "kind" p1) [.Eq] [.Constant (.int 2) 0 p2] p3, .Subscript (.Name "there" p4) (.Name "place" p5) p6] pos) (decide (kind = 2) && thereOf q d) := by
      intro pos p1 p2 p3 p4 p5 p6
      refine Tr.and (tr_kind (k := 2) (by kernel_rfl) (by decide) (by lia)) fun hk => ?_
      have hrow := hinl (by simpa using hk)
      have hzp : z[p]? = some (d, thereOf q d) := by
        rw [← hz]; unfold zOf; rw [List.getElem?_map, hrow]; rfl
      have hlt : p < 1000 := by have := (List.getElem?_eq_some_iff.mp hzp).1; lia
      exact Tr.subB (Ev.sub (x := .dat (.list (z.map fun p => .bool p.2))) (y := I p) (Ev.name (by kernel_rfl)) (Ev.name (by kernel_rfl)) (itL (by lia) (by lia) (by rw [show ((p : Int)).toNat = p by lia, List.getElem?_map, hzp]; rfl)))
    cases h1' : decide (kind = 2) && thereOf q d with
    | true =>
      rw [if_pos (Eq.refl true)]
      have hk : kind = 2 ∧ thereOf q d = true := by simpa using h1'
      refine Ex.thenLast (Tr.conv trOne h1') ?_
      refine Ex.step (St1.call (n := 10) (xs := [.hdr hd, .dat (.list ([d].map encR)), .is (.ref ar)]) (Ev.global hG hL.goesG rfl) oh.fo (EvA.plain (EvL.cons (Ev.name (by kernel_rfl)) (EvL.cons (EvD.list [encR d] (EvD.cons (Ev.name (by kernel_rfl)) EvD.nil star_name) (by show 1 ≤ 1000; decide)) (EvL.cons (Ev.name (by kernel_rfl)) EvL.nil star_name) rfl) star_name) star_name) (goes_law hL.toGoEnv h1 (hone hk.1 hk.2 hU) hc.qk (fun r hr => by rw [List.mem_singleton.mp hr]; exact hdd) (by lia)) (hA.le (by lia)) hcs) (Ex.nil ⟨Or.inr ⟨Eq.refl _, Eq.refl _⟩, hout _⟩)
    | false =>
      rw [if_neg Bool.false_ne_true]
      refine Ex.elseLast (Tr.conv trOne h1') ?_
      have hdiv : (kind : Int).fdiv 2 = ((kind / 2 : Nat) : Int) := by
        match kind, k3 with
        | 0, _ => rfl
        | 1, _ => rfl
        | 2, _ => rfl
      have hbsl : bs.length ≤ 61 := by
        rw [← hbs]
        unfold bridgesL
        rw [List.length_cons, List.length_map]
        have := List.length_filter_le (fun i => decide (cntAt z (i + 1) = 0)) (List.range z.length)
        rw [List.length_range] at this
        lia
      have hles := hdown hU
      have hends : ∃ e0, ((bs.filter fun i => decide (i ≥ ((p + kind / 2 : Nat) : Int))) ++ [0])[0]? = some e0 := by
        cases bs.filter fun i => decide (i ≥ ((p + kind / 2 : Nat) : Int)) with
        | nil => exact ⟨0, rfl⟩
        | cons a _ => exact ⟨a, rfl⟩
      obtain ⟨e0, he0⟩ := hends
      have he1 : 0 ≤ e0 ∧ e0 ≤ (z.length : Int) := by
        have hm := List.mem_of_getElem? he0
        rcases List.mem_append.mp hm with hm | hm
        · have hm2 := (List.mem_filter.mp hm).1
          rw [← hbs] at hm2
          unfold bridgesL at hm2
          rcases List.mem_cons.mp hm2 with rfl | hm2
          · lia
          · obtain ⟨i, hi, rfl⟩ := List.mem_map.mp hm2
            have := List.mem_range.mp (List.mem_filter.mp hi).1
            lia
        · rw [List.mem_singleton.mp hm]; lia
      have he : endOf bs (p + kind / 2) = e0.toNat := by unfold endOf; rw [he0]; rfl
      rw [he] at hles ⊢
      obtain ⟨e, rfl⟩ : ∃ e : Nat, e0 = e := ⟨e0.toNat, by lia⟩
      rw [show ((e : Int)).toNat = e by lia] at hles ⊢
      refine Ex.step (St1.assign (d := .dat (.list (((bs.filter fun i => decide (i ≥ ((p + kind / 2 : Nat) : Int))) ++ [0]).map .int))) ?_ (.inl rfl)) ?_
      · rw [List.map_append]
        refine Ev.bin (x := .dat (.list ((bs.filter fun i => decide (i ≥ ((p + kind / 2 : Nat) : Int))).map .int))) (y := .dat (.list [.int 0])) ?_ (EvD.list [.int 0] (EvD.cons Ev.const_int EvD.nil star_const) (by decide)) (addL ?_)
        · refine Ev.comp (x := "i") (xs := bs) (enc := PyData.int) (f := PyData.int) (p := fun i => decide (i ≥ ((p + kind / 2 : Nat) : Int))) (cl := [("place", L' + 1 + 1 + 1 + 1 + 1 + 1 + 1), ("kind", L' + 1 + 1)]) (σc := [("place", I p), ("kind", I kind)]) rfl (by decide) rfl (by decide) rfl (cl_cons (by kernel_rfl) (cl_cons (by kernel_rfl) cl_nil)) (.cons (by kernel_rfl) rfl rfl rfl rfl (.cons (by kernel_rfl) rfl rfl rfl rfl .nil)) (EvS.list hA.hh (Ev.name (by kernel_rfl)) (list_le (by lia))) (fun C X' r hr => TrL.one ?_) (fun C X' r hr _ => ?_)
          · refine Tr.cmp (x := I r) (y := I ((p + kind / 2 : Nat) : Int)) (Ev.name (by kernel_rfl)) (Ev.conv (Ev.bin (x := I p) (y := I ((kind : Int).fdiv 2)) (Ev.name (by kernel_rfl)) (Ev.bin (x := I kind) (y := I 2) (Ev.name (by kernel_rfl)) Ev.const_int (divI (by decide) ?_)) addI) ?_) geI
            · match kind, k3 with
              | 0, _ => decide
              | 1, _ => decide
              | 2, _ => decide
            · rw [hdiv]
              exact congrArg I (by lia)
          · exact Ev.name (by kernel_rfl)
        · rw [List.length_map]
          have := List.length_filter_le (fun i => decide (i ≥ ((p + kind / 2 : Nat) : Int))) bs
          refine list_le ?_
          show _ + 1 < 1000
          lia
      refine Ex.step (St1.call (n := 10) (xs := [.hdr hd, .dat (.list ((candDown z e).map encR)), .is (.ref ar)]) (Ev.global hG hL.goesG rfl) oh.fo (EvA.plain (EvL.cons (Ev.name (by kernel_rfl)) (EvL.cons ?_ (EvL.cons (Ev.name (by kernel_rfl)) EvL.nil star_name) star_comp) star_name) star_name) (goes_law hL.toGoEnv h1 hles hc.qk (fun r hr => ?_) (by lia)) (hA.le (by lia)) hcs) (Ex.nil ⟨Or.inr ⟨Eq.refl _, Eq.refl _⟩, hout _⟩)
      · have hcd : (candDown z e).map encR = ((z.take e).filter (·.2)).map fun p => encR p.1 := by unfold candDown; rw [List.map_map]; rfl
        rw [hcd, ← range_pick (fun p : Row × Bool => p.2) (fun p : Row × Bool => encR p.1) PyData.none (z.take e)]
        refine Ev.comp (x := "i") (xs := List.range (z.take e).length) (enc := fun k => PyData.int (k : Int)) (f := fun k => ((z.take e)[k]?).elim PyData.none fun p => encR p.1) (p := fun k => ((z.take e)[k]?).elim false fun p => p.2)
          (cl := [("there", L' + 1 + 1 + 1 + 1 + 1 + 1), ("rows", L' + 1 + 1 + 1 + 1 + 1)]) (σc := [("there", .dat (.list (z.map fun p => .bool p.2))), ("rows", .dat (.list (z.map fun p => encR p.1)))]) rfl (by decide) rfl (by decide) rfl (cl_cons (by kernel_rfl) (cl_cons (by kernel_rfl) cl_nil)) (.cons (by kernel_rfl) rfl rfl rfl rfl (.cons (by kernel_rfl) rfl rfl rfl rfl .nil)) ?_ (fun C X' k hk => TrL.one ?_) (fun C X' k hk hpk => ?_)
        · have hte : (z.take e).length = e := by rw [List.length_take]; lia
          rw [hte]
          exact EvS.rangeN hA.hh (Ev.bi hG hB.range') (Ev.sub (x := .dat (.list (((bs.filter fun i => decide (i ≥ ((p + kind / 2 : Nat) : Int))) ++ [0]).map .int))) (y := I 0) (Ev.name (by kernel_rfl)) Ev.const_int (itL (by decide) (by decide) (by rw [List.getElem?_map]; show Option.map _ (_ ++ [0])[0]? = _; rw [he0]; rfl))) (by lia) star_sub
        · have hkl : k < (z.take e).length := List.mem_range.mp hk
          obtain ⟨pr, hpr⟩ : ∃ pr, (z.take e)[k]? = some pr := ⟨(z.take e)[k], List.getElem?_eq_getElem hkl⟩
          have hpr2 : z[k]? = some pr := by rw [← hpr, List.getElem?_take]; rw [List.length_take] at hkl; rw [if_pos (by lia)]
          rw [hpr]
          have hlt : k < 1000 := by rw [List.length_take] at hkl; lia
          exact Tr.subB (Ev.sub (x := .dat (.list (z.map fun p => .bool p.2))) (y := I k) (Ev.name (by kernel_rfl)) (Ev.name (by kernel_rfl)) (itL (by lia) (by lia) (by rw [show ((k : Int)).toNat = k by lia, List.getElem?_map, hpr2]; rfl)))
        · have hkl : k < (z.take e).length := List.mem_range.mp hk
          obtain ⟨pr, hpr⟩ : ∃ pr, (z.take e)[k]? = some pr := ⟨(z.take e)[k], List.getElem?_eq_getElem hkl⟩
          have hpr2 : z[k]? = some pr := by rw [← hpr, List.getElem?_take]; rw [List.length_take] at hkl; rw [if_pos (by lia)]
          rw [hpr]
          have hlt : k < 1000 := by rw [List.length_take] at hkl; lia
          exact Ev.sub (x := .dat (.list (z.map fun p => encR p.1))) (y := I k) (Ev.name (by kernel_rfl)) (Ev.name (by kernel_rfl)) (itL (by lia) (by lia) (by rw [show ((k : Int)).toNat = k by lia, List.getElem?_map, hpr2]; rfl))
      · unfold candDown at hr
        obtain ⟨pr, hpr, rfl⟩ := List.mem_map.mp hr
        have h2 := List.mem_of_mem_take (List.mem_filter.mp hpr).1
        obtain ⟨i, hi⟩ := List.mem_iff_getElem?.mp h2
        exact hc.lg _ (hrm _ (List.mem_of_getElem? (hz3 i pr hi).1))
end
end Mine
set_option maxRecDepth 100000
set_option maxHeartbeats 2000000
namespace Mine
open PySem PySem.W PyProof.Rows PySem.Calls

/-! a text split by a pattern with one group -/
noncomputable def splitR (code text : Array Nat) (N : Nat) : Nat → Nat → Bool → Option (List Str)
  | 0, _, _ => none
  | f + 1, start, must =>
    let m := (Sre.forSearch code text 1 start text.size must).runFor (4 * (N + 1))
    match m.outcome with
    | some .failed => some [⟨text.extract start text.size⟩]
    | some .matched =>
      if (0 : Int) ≥ m.lastmark then none else
      match m.marks.getD 0 none, m.marks.getD 1 none with
      | some b, some e => if e < b then none else (splitR code text N f m.handed (m.handed == m.start)).map fun l => ⟨text.extract start m.start⟩ :: ⟨text.extract b e⟩ :: l
      | _, _ => none
    | _ => none
section
variable {prog : Program} {w : World} {A : Around} {G : Gn} {X W : Addr → Prop} {env : Env} {σ : List (Str × VD)} {cs cs' : List (Addr × Cell)} {s : Shared} {E : Value → Shared → Prop}
inductive SL : List Value → List Str → Prop
  | nil : SL [] []
  | cons {y : Str} {t : Tok} {vs : List Value} {ys : List Str} : SL vs ys → SL (.str y t :: vs) (y :: ys)
theorem SL.app : ∀ {vs us : List Value} {ys zs : List Str}, SL vs ys → SL us zs → SL (vs ++ us) (ys ++ zs)
  | _, _, _, _, .nil, q => q
  | _, _, _, _, .cons p, q => .cons (p.app q)
theorem SL.one {y : Str} {t : Tok} : SL [.str y t] [y] := .cons .nil
theorem SL.rd {X : Addr → Prop} {h : Heap} : ∀ {vs : List Value} {ys : List Str}, SL vs ys → (∀ y, y ∈ ys → PyData.strOk y = true) → RdL X h vs (ys.map .str)
  | _, _, .nil, _ => .nil
  | _, _, .cons p, h => .cons (.str _ _ (h _ (.head _))) (p.rd fun y hy => h y (.tail _ hy))
theorem SL.len : ∀ {vs : List Value} {ys : List Str}, SL vs ys → vs.length = ys.length
  | _, _, .nil => rfl
  | _, _, .cons p => by simp [p.len]
noncomputable abbrev SpSt := Array Value × Nat × Nat × Bool × Int × Bool
theorem split_over {M : Model} {body : Nat → SpSt → Sem (ForInStep SpSt)} (h1 : ∀ k out start must n (Q : ForInStep SpSt → Shared → Prop) s, Q (.yield (out, start, start, must, n, true)) s → wpAny M A (body k (out, start, start, must, n, true)) Q E s) :
    ∀ (l : List Nat) (out : Array Value) (start : Nat) (must : Bool) (n : Int) (Q : SpSt → Shared → Prop) s, Q (out, start, start, must, n, true) s → wpAny M A (forIn l ((out, start, start, must, n, true) : SpSt) body) Q E s
  | [], _, _, _, _, _, _, h => by rw [List.forIn_nil]; exact wpAny_pure h
  | k :: l, out, start, must, n, Q, s, h => by
    rw [List.forIn_cons]
    exact wpAny_bind (h1 k out start must n _ s (split_over h1 l out start must n Q s h))
theorem split_loop {M : Model} {code text : Array Nat} {N : Nat} {body : Nat → SpSt → Sem (ForInStep SpSt)} (h1 : ∀ k out start must n (Q : ForInStep SpSt → Shared → Prop) s, Q (.yield (out, start, start, must, n, true)) s → wpAny M A (body k (out, start, start, must, n, true)) Q E s)
    (h2 : ∀ k out start must n (Q : ForInStep SpSt → Shared → Prop) s, ((Sre.forSearch code text 1 start text.size must).runFor (4 * (N + 1))).outcome = some .failed → Q (.yield (out, start, start, must, n, true)) s → wpAny M A (body k (out, start, start, must, n, false)) Q E s)
    (h3 : ∀ k out start must n (Q : ForInStep SpSt → Shared → Prop) s m b e, (Sre.forSearch code text 1 start text.size must).runFor (4 * (N + 1)) = m → m.outcome = some .matched → ¬ (0 : Int) ≥ m.lastmark → m.marks.getD 0 none = some b → m.marks.getD 1 none = some e → ¬ e < b →
      (∀ t1 t2 tk, Q (.yield ((out.push (.str ⟨text.extract start m.start⟩ t1)).push (.str ⟨text.extract b e⟩ t2), m.handed, m.handed, m.handed == m.start, n + 1, false)) { s with toks := tk }) → wpAny M A (body k (out, start, start, must, n, false)) Q E s) :
    ∀ (f : Nat) (l : List Nat) (out : Array Value) (start : Nat) (must : Bool) (n : Int) (parts : List Str) (Q : SpSt → Shared → Prop) s, f ≤ l.length → splitR code text N f start must = some parts →
      (∀ us start' must' n' ys tk, SL us ys → parts = ys ++ [⟨text.extract start' text.size⟩] → Q (out ++ us.toArray, start', start', must', n', true) { s with toks := tk }) → wpAny M A (forIn l ((out, start, start, must, n, false) : SpSt) body) Q E s
  | 0, _, _, _, _, _, _, _, _, _, h, _ => by cases h
  | f + 1, [], _, _, _, _, _, _, _, hl, _, _ => by simp at hl
  | f + 1, k :: l, out, start, must, n, parts, Q, s, hl, h, hq => by
    unfold splitR at h
    dsimp only at h
    generalize hm : (Sre.forSearch code text 1 start text.size must).runFor (4 * (N + 1)) = m at *
    rw [List.forIn_cons]
    cases ho : m.outcome with
    | none => rw [ho] at h; cases h
    | some oc =>
      rw [ho] at h
      cases oc with
      | stuck _ => cases h
      | failed =>
        cases h
        refine wpAny_bind (h2 k out start must n _ s (by rw [hm]; exact ho) ?_)
        refine split_over h1 l out start must n Q s ?_
        have := hq [] start must n [] s.toks .nil rfl
        simpa using this
      | matched =>
        dsimp only at h
        split at h
        · cases h
        rename_i hlm
        split at h
        · rename_i b e hb he
          split at h
          · cases h
          rename_i hbe
          cases hr : splitR code text N f m.handed (m.handed == m.start) with
          | none => rw [hr] at h; cases h
          | some rest =>
            rw [hr] at h
            cases h
            refine wpAny_bind (h3 k out start must n _ s m b e hm ho hlm hb he hbe fun t1 t2 tk => ?_)
            refine split_loop h1 h2 h3 f l _ m.handed _ (n + 1) rest Q { s with toks := tk } (by simp at hl; lia) hr fun us start' must' n' ys tk' hs hp => ?_
            have := hq (.str ⟨text.extract start m.start⟩ t1 :: .str ⟨text.extract b e⟩ t2 :: us) start' must' n' (⟨text.extract start m.start⟩ :: ⟨text.extract b e⟩ :: ys) tk' (.cons (.cons hs)) (by rw [hp]; rfl)
            have e : (out.push (.str ⟨text.extract start m.start⟩ t1)).push (.str ⟨text.extract b e⟩ t2) ++ us.toArray = out ++ (Value.str ⟨text.extract start m.start⟩ t1 :: .str ⟨text.extract b e⟩ t2 :: us).toArray := by
              apply Array.toList_inj.mp; simp
            rw [e]
            exact this
        · cases h
theorem splitR_len {code text : Array Nat} {N : Nat} : ∀ (f start : Nat) (must : Bool) (parts : List Str), splitR code text N f start must = some parts → parts.length ≤ 2 * f
  | 0, _, _, _, h => by cases h
  | f + 1, start, must, parts, h => by
    unfold splitR at h
    dsimp only at h
    split at h
    · cases h; simp; lia
    · split at h
      · cases h
      split at h
      · split at h
        · cases h
        rename_i b e _ _ _
        cases hr : splitR code text N f ((Sre.forSearch code text 1 start text.size must).runFor (4 * (N + 1))).handed (((Sre.forSearch code text 1 start text.size must).runFor (4 * (N + 1))).handed == ((Sre.forSearch code text 1 start text.size must).runFor (4 * (N + 1))).start) with
        | none => rw [hr] at h; cases h
        | some rest =>
          rw [hr] at h
          cases h
          have := splitR_len f _ _ _ hr
          simp
          lia
      · cases h
    · cases h
theorem split_wp {re : Addr} {code : Array Nat} {x : Str} {t : Tok} {N f : Nat} {parts : List Str} {Q : PySem.Fin → Shared → Prop} (hp : PatAt G re code 1) (g : Gd G s.heap) (hx : x.length < 1000) (hs : splitR code x.cps N f 0 false = some parts) (hf : f ≤ 2 * x.length + 3) (hN : N < 1000)
    (hq : ∀ vs tk, SL vs parts → Q (.done (.ret (.ref s.heap.objs.size))) { s with heap := s.heap.push { cls := .type "list", data := .seq (List.toArray vs) }, toks := tk }) :
    wpAny (model prog w) A (Builtin.«re.Pattern.split» ⟨[.ref re, .str x t], []⟩) Q E s := by
  obtain ⟨o, vs, ca, oc, its, n, e1, e2, e3, e4, e5, e6, e7, e8, e9, e10⟩ := hp.obj
  unfold Builtin.«re.Pattern.split»
  dsimp only
  have hn : Builtin.Re.reNamed "re.Pattern.split" "split" ["string", "maxsplit"] 1 [.str x t] [] = pure [some (.str x t), none] := by
    first | rfl | (unfold Builtin.Re.reNamed; simp)
  refine wpAny_bind (wpAny_of_eq hn ?_)
  dsimp only
  refine wpAny_bind (wpAny_pure ?_)
  refine wpAny_bind (m := Builtin.Re.reWholeTarget _ _) ?_
  unfold Builtin.Re.reWholeTarget
  refine wpAny_bind (wpAny_fieldsOf (g.fr.keep _ _ e1) e4 ?_)
  refine wpAny_bind (wpAny_of_eq (show Builtin.Re.reTextOf (.str x t) = pure (x.cps, 0) from rfl) ?_)
  dsimp only
  rw [e5]
  rw [if_neg (by decide), if_neg (by decide)]
  refine wpAny_bind (wpAny_of_eq (show Builtin.Re.reNoCollectionInside (.str x t) 0 = pure () from rfl) ?_)
  rw [e7]
  refine wpAny_bind (m := Builtin.Re.reRawItems (.ref ca)) ?_
  unfold Builtin.Re.reRawItems
  refine wpAny_bind (wpAny_seqItems (g.fr.keep _ _ e8) e9 (wpAny_pure ?_))
  refine wpAny_pure ?_
  rw [e6]
  have e11 : (Array.map (fun x => x.toNat) (Array.map Builtin.Re.reRawOf ((some its).getD #[]))) = code := e10
  rw [e11]
  have hxl : x.length = x.cps.size := rfl
  have ex : ∀ a b : Nat, (⟨x.cps.extract a b⟩ : Str).length ≤ sizeLine := fun a b => by
    show (x.cps.extract a b).size ≤ _
    rw [Array.size_extract, sizeLine_eq]; lia
  refine wpAny_bind (split_loop (code := code) (text := x.cps) (N := N) ?_ ?_ ?_ f _ #[] 0 false 0 parts _ s ?_ hs ?_)
  · intro k out start must n Q s h
    exact wpAny_pure h
  · intro k out start must n Q s ho h
    refine wpAny_bind (m := Builtin.Re.reNextFound _ _ _) ?_
    unfold Builtin.Re.reNextFound
    refine run_wp N _ (by lia) (.inr ⟨ho, ?_⟩)
    exact wpAny_pure h
  · intro k out start must n Q s m b e hm ho hlm hb he hbe h
    refine wpAny_bind (m := Builtin.Re.reNextFound _ _ _) ?_
    unfold Builtin.Re.reNextFound
    refine run_wp N _ (by lia) (.inl ⟨some m, by rw [show (Sre.forSearch code x.cps 1 start x.cps.size must).runFor (4 * (N + 1)) = m from hm]; exact ho, by rw [show (Sre.forSearch code x.cps 1 start x.cps.size must).runFor (4 * (N + 1)) = m from hm], ?_⟩)
    refine wpAny_bind (m := mkStr _) (wpAny_mkStr ?_ (ex _ _))
    refine wpAny_bind ?_
    show wpAny _ A (forIn [0] _ _) _ E _
    rw [List.forIn_cons]
    refine wpAny_bind (wpAny_bind ?_)
    have hmg : ∀ T : Builtin.Re.ReTarget, T.text = x.cps → T.kind = 0 → Builtin.Re.reMachineGroup T m (0 + 1) (pure .none) = mkStr ⟨x.cps.extract b e⟩ := fun T h1 h2 => by
      unfold Builtin.Re.reMachineGroup
      rw [if_neg (show ¬ ((2 * (0 + 1 - 1) : Nat) : Int) ≥ m.lastmark from hlm)]
      rw [show m.marks.getD (2 * (0 + 1 - 1)) none = some b from hb, show m.marks.getD (2 * (0 + 1 - 1) + 1) none = some e from he]
      dsimp only
      rw [if_neg hbe, h1, h2]
      rfl
    rw [hmg _ rfl rfl]
    refine wpAny_mkStr ?_ (ex _ _)
    refine wpAny_pure ?_
    dsimp only
    rw [List.forIn_nil]
    refine wpAny_pure (wpAny_pure ?_)
    exact h _ _ _
  · rw [List.length_range]
    show f ≤ 2 * x.cps.size + 3
    lia
  · intro us start' must' n' ys tk hsl hparts
    dsimp only
    rw [if_neg (by decide)]
    refine wpAny_bind (m := mkStr _) (wpAny_mkStr ?_ (ex _ _))
    have hvs : SL (us ++ [.str ⟨x.cps.extract start' x.cps.size⟩ tk]) parts := by rw [hparts]; exact hsl.app .one
    have e : (((#[] : Array Value) ++ us.toArray).push (.str ⟨x.cps.extract start' x.cps.size⟩ tk)).toList = us ++ [.str ⟨x.cps.extract start' x.cps.size⟩ tk] := by simp
    rw [e]
    refine wpAny_bind (wpAny_newList (wpAny_pure ?_) ?_)
    · exact hq _ (tk + 1) hvs
    · rw [hvs.len, sizeLine_eq]
      have := splitR_len _ _ _ _ hs
      lia
theorem slot_re_split : Slot "re.Pattern" "split" "re.Pattern.split" :=
  .of (owner := "re.Pattern") (n := "split") (by rw [typeLookup_type, builtinLookup_eq_fast]; kernel_rfl) (by decide +kernel) (by decide +kernel) (by decide +kernel)
    (by first | exact .inl (by decide +kernel) | exact .inr (by decide +kernel)) (by rw [isSubtype_type]; kernel_rfl)
theorem entry_re_split : entryFor table "re.Pattern.split" = some Builtin.«re.Pattern.split» := entryFor_of_fast (by kernel_rfl)
theorem type_re_split : typeOf (.builtin "re.Pattern.split") = pure (.type "method_descriptor") := by show builtinType _ = _; rw [builtinType_eq_fast]; kernel_rfl
theorem args_re_split (a b : Value) : argsOk "re.Pattern.split" ⟨[a, b], []⟩ := by unfold argsOk; kernel_rfl
/-- regex.split(e), gone through -/
theorem EvS.split {r : Str} {e : Expr} {pr apos pos : Pos} {re : Addr} {code : Array Nat} {x : Str} {N f : Nat} {parts : List Str} (hh : A.handled = none) (hp : PatAt G re code 1) (hr : Ev prog w A G X W env σ cs (.Name r pr) (.is (.ref re))) (he : Ev prog w A G X W env σ cs e (S x)) (hx : x.length < 1000)
    (hsp : splitR code x.cps N f 0 false = some parts) (hf : f ≤ 2 * x.length + 3) (hN : N < 1000) (hok : ∀ y, y ∈ parts → PyData.strOk y = true)
    (hs : starEach [e] env = [(false, eval e env)]) (hbase : attributeBase (.Name r pr) "split" env (eval (.Name r pr) env) = eval (.Name r pr) env) (hline : (apos.endLine == pos.line) = true) :
    EvS prog w A G X W env σ cs (.Call (.Attribute (.Name r pr) "split" apos) [e] [] pos) parts PyData.str := by
  refine EvS.list hh ⟨fun s i => ?_⟩ ?_
  · refine Call_method1 hbase hs hline (wff (hr.run s i) fun v s₁ ⟨k, r⟩ => ?_)
    have r' : v = .ref re := r
    subst r'
    have i1 := i.quiet k
    obtain ⟨o, vs, ca, oc, its, n, e1, e2, e3, e4, _⟩ := hp.obj
    have e1' := i1.gd.fr.keep _ _ e1
    refine ⟨"re.Pattern", _, plainAttrs_re, slot_re_split, type_re_split, ⟨o, e1', e2⟩, fun b hb => by cases hb; exact ⟨o, e1', e3⟩, ?_⟩
    refine Calls.callWith_builtin rfl (Calls.evalArgs_plain (Calls.spliced_cons (wff (he.run s₁ i1) fun v s₂ ⟨k2, r2⟩ => Calls.spliced_nil ?_)))
    obtain ⟨⟨t, rfl⟩, _⟩ := Rd.str_inv r2
    have i2 := i1.quiet k2
    refine wpAny_call_entry slot_re_split ⟨o, i2.gd.fr.keep _ _ e1, e2⟩ entry_re_split ?_ (args_re_split _ _)
    refine split_wp hp i2.gd hx hsp hf hN fun vs tk hsl => ⟨_, rfl, ?_⟩
    have k3 : QQ G s₂ { s₂ with heap := s₂.heap.push { cls := .type "list", data := .seq (List.toArray vs) }, toks := tk } := QS.up fun _ _ e => Heap.get?_push_of_some _ e
    refine ⟨(k.trans k2).trans k3, .list i2.ok.fresh (Heap.get?_push_size _ rfl) ?_⟩
    rw [List.toList_toArray]
    exact hsl.rd hok
  · have := splitR_len _ _ _ _ hsp
    rw [sizeLine_eq]; lia
end
end Mine
set_option maxRecDepth 100000
set_option maxHeartbeats 2000000
namespace Mine
open PySem PySem.W PyProof.Rows
/-! the claim's call -/
theorem thread_endsK {prog : Program} {w : World} {t : Sem PySem.Fin} {s : Shared} {R : Result → Shared → Prop} (hreg : s.asleep)
    (h : Sem.wp (model prog w) ⟨.builtin "claim.caller" {}, none, none, [], none⟩ t (Sem.finPost (model prog w) ⟨.builtin "claim.caller" {}, none, none, [], none⟩ fun r s' => R r s' ∧ leftWithCleanup s'.gens = false) (fun e _ s' => R (.error e) s' ∧ leftWithCleanup s'.gens = false) default s) :
    ∃ n r s' s'', runN (denote table) prog w n s ⟨t, .builtin "claim.caller" {}, default, []⟩ = .halted (outcomeOf r) s' ∧
      schedN (denote table) prog w n (.single s ⟨t, .builtin "claim.caller" {}, default, []⟩) = .halted (outcomeOf r) s' ∧ s'.forget = s''.forget ∧ R r s'' := by
  obtain ⟨n, r, s₁, s₂, hs, hn, hfo, hR⟩ := wp_halts_full (M := model prog w) (R := R) hreg h
  exact ⟨n, r, s₂, s₁, hn, hs, hfo, hR⟩
theorem caller_call {prog : Program} {w : World} {name : Str} {vs : List Value} {mg : Str → Option Value} {f : Value} {s : Shared} {R : Result → Shared → Prop} (hg : s.heap.Ns mainGlobals mg) (hf : mg name = some f)
    (h : codeK Un.und (model prog w) callerA (.call f ⟨vs, []⟩) (fun x s' => R x s' ∧ ∀ f, x = .ok f → ∃ v, f = .ret v) s) :
    Sem.wp (model prog w) ⟨.builtin "claim.caller" {}, none, none, [], none⟩ (do match ← nsGet mainNs name with
      | some f => do ret (← PySem.call f vs)
      | none => unsupported "claim.caller:no-such-global") (Sem.finPost (model prog w) ⟨.builtin "claim.caller" {}, none, none, [], none⟩ R) (fun e _ s' => R (.error e) s') default s := by
  rw [Sem.wp_bind']
  show Sem.wp _ _ (nsGet mainGlobals name) _ _ _ _
  rw [Sem.wp_nsGet _ _ _ _ _ hg, hf]
  show Sem.wp _ _ (PySem.call f vs >>= fun v => ret v) _ _ _ _
  rw [Sem.wp_bind']
  show Sem.wp _ _ (runValue (.call f ⟨vs, []⟩)) _ _ _ _
  rw [Sem.wp_runValue]
  refine wpCode_mono (fun r s' hr => ?_) (h _ _ rfl (caller_in.enter _ none _ (by intro x; cases x)) rfl)
  obtain ⟨hr, hv⟩ := hr
  cases r with
  | error e => exact hr
  | ok fl =>
    obtain ⟨v, rfl⟩ := hv fl rfl
    exact hr
end Mine
set_option maxRecDepth 100000
set_option maxHeartbeats 2000000
namespace Mine
open PySem PySem.W PyProof.Rows PySem.Spec PySem.Calls

/-- the claim's call, met under the claim's caller -/
noncomputable abbrev WalkK (q : Program) (loose : List Str) (XP : (Str → Option Value) → Heap → Prop) (YP : World → Heap → Prop) (r : RowW) (d : DefRec) (kwd : List (Str × Expr)) : Prop :=
  ∀ (w : World) (s₀ s₁ : Shared) (mg mb : Str → Option Value), Ground q loose r.records XP w s₀ mg mb s₁.heap → YP w s₁.heap → ∀ (a : Addr) (o : Obj) (pm cd doc dV kV : Value), s₁.heap.get? a = some o →
    o.data = .func { docDef d.name d.params d.body d.scope pm cd doc with defaults := dV, kwdefaults := kV } → s₁.heap.CodeRec cd d.name → Dflts mg s₁.heap d.params kwd dV kV → mg d.name = some (.ref a) → s₁.gens = #[] →
    ∀ (args : List WData) (vals : List Value) (as : List Addr), r.claim.pre args = true → WData.layableAll args = true → ReadsAllW r.records (classAt s₀.heap) s₁.heap vals args as → WellAll w.params s₁.heap vals args → (∀ a ∈ as, (a == sysModules) = false) →
      codeK Un.und (model r.prog w) callerA (.call (.ref a) ⟨vals, []⟩) (fun x s' => GoodWG r.claim (classAt s₀.heap) (ExcName.means s₀.heap) args s₁ x s' ∧ ∀ f, x = .ok f → ∃ v, f = .ret v) s₁

theorem headK {r : OpenRow} {q : Program} {loose : List Str} {Xt : Shared → Bool} {XP : (Str → Option Value) → Heap → Prop} {YP : World → Heap → Prop} {α : Type} {Yf : Shared → α} {Ya : World → α} {d : DefRec} {kwd : List (Str × Expr)} {N : Nat}
    (left : LeftO r.prog q loose Xt Yf Ya N) (hY : ∀ w s, Yf s = Ya w → YP w s.heap) (hYk : ∀ w h h', YP w h → (∀ b o, h.get? b = some o → h'.get? b = some o) → YP w h')
    (hX : ∀ s, Xt s = true → XP (s.heap.nsMap mainGlobals) s.heap) (hXk : ∀ mg h h', XP mg h → (∀ b o, h.get? b = some o → h'.get? b = some o) → XP mg h')
    (hdef : defOf q r.name = some (d, kwd)) (hp : r.prog.theDef r.name = some (d.params, d.body, d.scope)) (hk : kwWritten? d.params.kwonlyargs d.params.kw_defaults = some kwd) (hRf : ∀ s, Xt s = true → RecFacts r.records s.heap) (hwr : (!r.writes || r.records.isEmpty) = true)
    (k1 : r.wellSaid = true) (ok : (chainsOk q && opensWell r.prog && (frees r.toRowW && r.within.isEmpty)) = true) (hb : r.prog.bare) (hw : r.toRowW.promised)
    (call : WalkK q loose XP YP r.toRowW d kwd) : r.Holds := by
  obtain ⟨ok, k5⟩ := Bool.and_eq_true_iff.mp ok
  obtain ⟨hch, o1⟩ := Bool.and_eq_true_iff.mp ok
  obtain ⟨k5, k6⟩ := Bool.and_eq_true_iff.mp k5
  obtain ⟨hsame, hu, ha, hap, hm⟩ := frees_parts k5
  refine ⟨k1, hw, ⟨hb, o1, by show r.makers.map _ = []; rw [hm]; rfl⟩, hw.witness, fun w => ⟨(left.behind hX hch w).1, fun s' hs' => ?_⟩⟩
  obtain ⟨s₀, hf, hg0, s, hT, hz, hgens, hg, G00, y⟩ := (left.behind (XP := fun mg h => XP mg h ∧ RecFacts r.records h) (fun s hs => ⟨hX s hs, hRf s hs⟩) hch w).2 s' hs'
  have G0 : Ground q loose [] XP w s (s.heap.nsMap mainGlobals) (s.heap.nsMap builtinsNs) s.heap := ⟨G00.T, G00.B, G00.D, G00.TE, G00.TD, G00.W, G00.X.1, G00.cls, G00.has, G00.apart, G00.once, G00.K⟩
  have RF := G00.X.2
  have hT' := hT
  refine ⟨s₀, hf, hg0, s, hT, fun n hn => ?_, RF.1, RF.2.1, ?_⟩
  · obtain rfl : n = r.name := by split at hn <;> simp_all
    exact pinned_of_view hg G0 hdef hp hk
  have hgens : s.gens = #[] := Array.eq_empty_of_size_eq_zero (beq_iff_eq.mp hgens)
  have G : Ground q loose r.records XP w s _ _ s.heap := RF.ground G0
  intro args hpre hlay ord hord
  obtain ⟨⟨vs, s₁⟩, hlaid⟩ := Option.isSome_iff_exists.mp (layAllW_isSome (P := w.params) (ord := ord) G.has args r.args s (pre_splitW hpre).1)
  have keeps := layAllW_keeps _ _ _ hlaid
  have hal := layAllW_rest _ _ _ hlaid
  obtain ⟨as, hrd, hin, hold⟩ := reads_layAllW hord _ _ _ hlaid hlay s₁.heap (fun _ _ e => e)
  have L : Laid r.records w s s₁ args vs as := ⟨⟨ord, hord, hlaid⟩, hrd, hin, hold, keeps, hal.1.trans hgens, hal.2.2.1⟩
  have G₁ := G.keeps hXk keeps
  obtain ⟨a, o, pm, cd, doc, dV, kV, h1, h2, h3, h4, h5⟩ := G₁.fn hdef
  have hc := call w s s₁ _ _ G₁ (hYk _ _ _ (hY w s y) keeps) a o pm cd doc dV kV h2 h3 h4 h5 (defOf_name hdef ▸ h1) L.gens args vs as hpre hlay L.reads L.well (L.low G.low)
  have hi := ident_freeW hu ha hap
  have hwi : r.claim.within = [] := List.isEmpty_iff.mp k6
  have kept : ∀ x s', GoodWG r.claim (classAt s.heap) (ExcName.means s.heap) args s₁ x s' → (r.claim.Ends s args vs s₁ x s' ∧ s'.os = s.os ∧ (r.writes = true → namesKept r.prog r.keeps s.heap s'.heap ∧ ∀ x ∈ r.records, ∀ a, classAt s.heap x.1 = some a → recordClass s'.heap a x.1 (x.2.map (·.1)) = true)) ∧ leftWithCleanup s'.gens = false := fun x s' g => by
    have z := g.laid (c := r.claim) hsame hwi hi L
    exact ⟨⟨z.1, z.2.1, fun q => ⟨namesKept_of hT' hg r.keeps keeps g.2.1.old, noTable hwr q⟩⟩, leftWithCleanup_false_of_bare z.2.2⟩
  obtain ⟨k, x, s', s'', hrun, hsched, hfo, hcase, hos, hkp⟩ := thread_endsK (prog := r.prog) (w := w) (s := s₁) (R := fun x s' => r.claim.Ends s args vs s₁ x s' ∧ s'.os = s.os ∧ (r.writes = true → namesKept r.prog r.keeps s.heap s'.heap ∧ ∀ x ∈ r.records, ∀ a, classAt s.heap x.1 = some a → recordClass s'.heap a x.1 (x.2.map (·.1)) = true)) (Shared.asleep_of_life hal.2.2.2 hz)
    (caller_call G₁.T.g h1 (codeK_mono hc fun x s' g => ⟨kept x s' g.1, g.2⟩))
  obtain ⟨eh, _, _, eo, _⟩ := Shared.forget_eq hfo
  have hcase := hcase.congr eh
  rw [← eh] at hkp
  rw [← eo] at hos
  have hlife : s'.heap.life = s.heap.life := (runN_life _ _ _ hrun).trans hal.2.2.2
  refine ⟨vs, s₁, hlaid, k, _, s', hsched, ?_, (fun _ i x hx => by rw [hgens] at hx; simp at hx), hkp, by rw [hlife], Shared.rest_eq hos⟩
  rcases hcase with ⟨v, rfl, d1, d2, d3, d4, d5⟩ | ⟨e, ob, cls, rfl, d1, d2, d3, d4, d5⟩
  · exact .inl ⟨v, rfl, d1, d2, d3, fun b o y _ => d4 b o y, d5⟩
  · exact .inr ⟨e, ob, cls, rfl, d1, d2, d3, d4, fun b o y _ => d5 b o y⟩
end Mine
set_option maxRecDepth 100000
set_option maxHeartbeats 2000000
namespace Mine
open PySem PySem.W PyProof.Rows PySem.Calls

section
variable {M : Model} {A : Around} {E : Value → Shared → Prop} {s : Shared} {env : Env}
/-! the mark of a refusal -/
theorem wpK_markTheRefusal {own : List String} {e : Value} {Q : Unit → Shared → Prop} (h : Q () s) : wpK Un.und M A (markTheRefusal own e) Q E s := fun Γ p hΓ hU => by
  unfold markTheRefusal
  rw [Sem.wp_bind']
  unfold stack
  rw [Sem.wp_stack]
  have hf : pythonCodeMadeTheCall own (((Γ.code, p) :: Γ.below).map (·.1)) = false := by
    have key : (((Γ.code, p) :: Γ.below).map (·.1)).any Code.isCaller = true := by
      rw [List.map_cons, List.any_cons, List.any_map]
      have hu : Γ.below.any (Code.isCaller ∘ fun x => x.1) = true := hU
      rw [hu, Bool.or_true]
    show ((!(((Γ.code, p) :: Γ.below).map (·.1)).any Code.isCaller && _) && _) = false
    rw [key]
    rfl
  show Sem.wp M Γ (if pythonCodeMadeTheCall own (((Γ.code, p) :: Γ.below).map (·.1)) = true then _ else pure ()) _ _ _ _
  rw [hf]
  exact h
end
end Mine
set_option maxRecDepth 100000
set_option maxHeartbeats 2000000
namespace Mine
open PySem PySem.W PyProof.Rows PySem.Calls

section
variable {prog : Program} {w : World} {A : Around} {E : Value → Shared → Prop} {s : Shared} {env : Env}
/-- what int(x, 10) tells of a text -/
theorem intFromText_val {M : Model} {Q : Value → Shared → Prop} {x : Str} {t : Tok} {n : Int} (hx : x.length ≤ 640) (hn : PySem.intText? x = some n) (h : ∀ tk u, Q (.int n u) { s with toks := tk }) :
    wpAny M A ((int_private% "intFromText") (.str x t) (numTextOf x) 10) Q E s := by
  have hs : (numSeenOf x).length ≤ 640 := Nat.le_trans (seen_length x) hx
  rcases PySem.read0 x hs with ⟨m, h1, h2, h3⟩ | ⟨h1, _⟩
  · rw [hn] at h1
    cases h1
    exact PySem.W.KIN.wp_text hs h3 h2 (h _ _)
  · rw [hn] at h1; cases h1
/-- the refusal of a text -/
noncomputable def intRefuses (x : Str) (t : Tok) : Sem Value := do
  rule "int.__new__.invalid-literal"
  let shown ← pyRepr (.str x t)
  let m ← mkStr (Str.ofString (toString "invalid literal for int() with base " ++ toString 10 ++ toString ": ") ++ ⟨shown.cps.extract 0 200⟩)
  let refusal ← newExc (.type "ValueError") [m]
  markTheRefusal ["int.__new__"] refusal
  raiseNew refusal
theorem intFromText_eq {x : Str} {t : Tok} : ∃ (tool : Nat → Nat → Sem Value) (lib : Sem Value), (int_private% "intFromText") (.str x t) (numTextOf x) 10 =
    (let J := fun limit => (int_private% "Numeral.casesOn") (motive := fun _ => Sem Value) ((int_private% "readNumeral") limit 10 (numSeenOf x)) (intRefuses x t) (tool limit) lib (fun i => if ((numSeenOf x).length == (numTextOf x).length) = true then mkInt i else intRefuses x t)
     if (numSeenOf x).length ≤ 640 then pure 0 >>= J else Builtin.intMaxStrDigits >>= J) :=
  ⟨fun limit n => rule "int.__new__.digit-limit" >>= fun _ => (raiseErrorMade "ValueError" (toString "Exceeds the limit (" ++ toString limit ++ toString " digits) for integer string conversion: value has " ++ toString n ++ toString " digits; use sys.set_int_max_str_digits() to increase the limit") : Sem PUnit) >>= fun _ => intRefuses x t,
    (unsupported "int.__new__:text-by-_pylong" : Sem PUnit) >>= fun _ => intRefuses x t, by kernel_rfl⟩
theorem intFromText_refuses {x : Str} {t : Tok} (hx : x.length ≤ 640) (hn : PySem.intText? x = none) : (int_private% "intFromText") (.str x t) (numTextOf x) 10 = intRefuses x t := by
  have hs : (numSeenOf x).length ≤ 640 := Nat.le_trans (seen_length x) hx
  obtain ⟨tool, lib, e⟩ := intFromText_eq (x := x) (t := t)
  rw [e]
  dsimp only
  rw [if_pos hs, pure_bind]
  rcases PySem.read0 x hs with ⟨m, h1, h2, h3⟩ | ⟨_, h1 | ⟨i, h1, h2⟩⟩
  · rw [hn] at h1; cases h1
  · rw [h1]
  · rw [h1]
    exact if_neg h2
theorem intRefuses_raises {x : Str} {t : Tok} {Q : Value → Shared → Prop} (hx : (reprText x).length ≤ 1000) (hh : A.handled = none)
    (h : ∀ h' tk e, Heap.NewExc s.heap h' e "ValueError" → E (.ref e) { s with heap := h', toks := tk }) : wpK Un.und (model prog w) A (intRefuses x t) Q E s := by
  unfold intRefuses
  refine wpK_bind (wpK_rule (wpK_bind (wpAny.k (wpAny_pyRepr_str ?_ (by rw [sizeLine_eq]; lia)))))
  refine wpK_bind (wpAny.k (wpAny_mkStr ?_ ?_))
  · refine wpK_bind (wpAny.k (wpAny_newExc_plain plainExc_ValueError (fun h' e hm => ?_) (by rw [sizeLine_eq]; exact Nat.le_add_left 1 _)))
    refine wpK_bind (wpK_markTheRefusal (wpAny.k (wpAny_raiseNew_none hh ?_)))
    exact h _ _ _ hm.newExc
  · show ((Str.ofString _).cps ++ (reprText x).cps.extract 0 200).size ≤ sizeLine
    rw [Array.size_append, Array.size_extract, sizeLine_eq]
    have : ((Str.ofString (toString "invalid literal for int() with base " ++ toString 10 ++ toString ": ")).cps).size ≤ 1000 := by decide +kernel
    have hr : (reprText x).cps.size ≤ 1000 := hx
    lia
theorem int_new_eq {x : Str} {t u : Tok} : Builtin.«int.__new__» ⟨[.type "int", .str x t, .int 10 u], []⟩ = ((int_private% "intFromText") (.str x t) (numTextOf x) 10 >>= fun v => ret v) := by
  unfold Builtin.«int.__new__»
  dsimp only
  have h1 : isType (.type "int") = pure true := by first | rfl | kernel_rfl
  rw [h1, pure_bind]
  simp only [Bool.not_true, Bool.false_eq_true, if_false]
  rw [F.conv_sub_int]
  rw [pure_bind]
  simp only [Bool.not_true, Bool.false_eq_true, if_false]
  rw [F.madeHere_int]
  rw [pure_bind, if_neg (by simp), if_neg (by simp)]
  kernel_rfl
end
end Mine
set_option maxRecDepth 100000
set_option maxHeartbeats 2000000
namespace Mine
open PySem PySem.W PyProof.Rows PySem.Calls

theorem typeCall_int_2 (a b : Value) : checkTypeCall "int" ⟨[a, b], []⟩ = pure () := by kernel_rfl
theorem newCall_int_2 (a b : Value) : checkBuiltinCall "int.__new__" ⟨[.type "int", a, b], []⟩ = pure () := by kernel_rfl
theorem initCall_int_2 (obj a b : Value) : argsOk "object.__init__" ⟨[obj, a, b], []⟩ := by unfold argsOk; kernel_rfl
theorem type_call_int (a b : Value) : ∃ rest : Value → Sem PySem.Fin, Builtin.«type.__call__» ⟨[.type "int", a, b], []⟩ = (holding [.builtin "int.__new__"] (call (.builtin "int.__new__") [.type "int", a, b] []) >>= rest) := by
  unfold Builtin.«type.__call__»
  dsimp only
  rw [if_neg (by rw [F.called_int.notType]; exact Bool.false_ne_true)]
  have h2 := F.called_int.canCreate
  rw [if_neg (fun e => Bool.false_ne_true (h2.symm.trans e))]
  rw [typeCall_int_2, pure_bind]
  rw [F.mro_int, pure_bind, if_neg (by simp), F.called_int.made, pure_bind]
  dsimp only
  rw [pure_bind]
  exact ⟨_, rfl⟩
section
variable {U : Un} {prog : Program} {w : World} {A : Around} {E : Value → Shared → Prop} {s : Shared} {env : Env} {R : Result → Shared → Prop}
theorem codeK_builtin {id : String} {args : Args} {b : Builtin} (hb : entryFor table id = some b)
    (h : wpK U (model prog w) (A.under (.builtin id args)) (b args) (fun fin s' => match fin with | .done f => R (.ok f) s' | .again c' => c'.quiet = true ∧ codeK U (model prog w) A c' R s') (fun e s' => R (.error e) s') s) : codeK U (model prog w) A (.builtin id args) R s := by
  refine codeK_of_tree ?_
  show wpK _ _ _ (match entryFor table id with | some b => b args | none => unsupported ((withoutEnding? id "#data").getD id)) _ _ s
  rw [hb]; exact h
/-- int(x, 10) of a text that is a number -/
theorem call_int_val {Q : Value → Shared → Prop} {x : Str} {t u : Tok} {n : Int} (hx : x.length ≤ 640) (hn : PySem.intText? x = some n) (h : ∀ tk v, Q (.int n v) { s with toks := tk }) :
    wpAny (model prog w) A (call (.type "int") [.str x t, .int 10 u]) Q E s := by
  refine callType_new (S := fun _ R s => ∀ tk v, R (.ok (.ret (.int n v))) { s with toks := tk }) F.called_int F.newNe_int (typeCall_int_2 _ _) (newCall_int_2 _ _) (fun obj => initCall_int_2 obj _ _) F.entry_int_new (Meets.of_wp fun prog w A R s hs => ?_) fun tk v => ⟨rfl, h tk v⟩
  rw [int_new_eq]
  exact wpAny_bind (intFromText_val hx hn fun tk v => wpAny_pure ⟨_, rfl, hs tk v⟩)
/-- int(x, 10) of a text that is none -/
theorem call_int_bad {Q : Value → Shared → Prop} {x : Str} {t u : Tok} (hx : x.length ≤ 640) (hr : (reprText x).length ≤ 1000) (hn : PySem.intText? x = none) (hh : A.handled = none)
    (h : ∀ h' tk e, Heap.NewExc s.heap h' e "ValueError" → E (.ref e) { s with heap := h', toks := tk }) : wpK Un.und (model prog w) A (call (.type "int") [.str x t, .int 10 u]) Q E s := by
  refine wpK_call (codeK_of_tree ?_)
  show wpK _ _ _ (callAny (.type "int") _) _ _ _
  refine wpK_pure ⟨Code.quiet_builtin _ (by decide +kernel), codeK_builtin F.entry_type_call ?_⟩
  rw [Around.under_plain (weight_type_call_type "int" _ _) (units_type_call_type "int" _ _)]
  obtain ⟨rest, e⟩ := type_call_int (.str x t) (.int 10 u)
  rw [show Builtin.«type.__call__» ⟨.type "int" :: [.str x t, .int 10 u], []⟩ = _ from e]
  refine wpK_bind (wpK_holding (wpK_call (codeK_of_tree ?_)))
  show wpK _ _ _ (callAny (.builtin "int.__new__") _) _ _ _
  simp only [callAny]
  rw [newCall_int_2, pure_bind]
  refine wpK_pure ⟨plainId_quiet (by decide +kernel) _, codeK_builtin F.entry_int_new ?_⟩
  rw [Around.under_plainId (by decide +kernel) _, int_new_eq, intFromText_refuses hx hn]
  exact wpK_bind (intRefuses_raises hr hh h)
end
end Mine
set_option maxRecDepth 100000
set_option maxHeartbeats 2000000
namespace Mine
open PySem PySem.W PyProof.Rows PySem.Calls

section
variable {U : Un} {M : Model} {A : Around} {E : Value → Shared → Prop} {s : Shared} {env : Env}
theorem callWithK_type {pos : Pos} {T : String} {args : List (Bool × Sem Value)} {keywords : List (Option Str × Sem Value)} {Q : Value → Shared → Prop} (hp : (args.any (·.1) || keywords.any (·.1.isNone)) = false)
    (h : wpK U M A (evalArgs (.type T) true args keywords) (fun x s₁ => wpK U M A (call (.type T) x.pos x.kw) Q E s₁) E s) : wpK U M A (callWith pos (.type T) [] args keywords) Q E s := by
  unfold callWith
  refine wpK_bind (wpK_holding (wpK_mono h (fun x s₁ h₁ => wpK_bind (wpK_standAt ?_)) fun _ _ x => x))
  rw [hp]
  refine wpK_bind (wpK_pure ?_)
  exact wpK_bind (wpK_mono h₁ (fun r s₂ hr => wpK_bind (wpK_holding (wpK_point (wpK_pure hr)))) fun _ _ x => x)
theorem wpK_Assign_Name {x : Str} {pos' pos : Pos} {value : Expr} {Q : Flow → Shared → Prop} (h : wpK U M A (eval value env) (fun v s₁ => wpK U M A (storeName env x v) (fun _ => Q .next) E s₁) E s)
    (hs : swapsWith value (some (.Name x pos')) pos.line env = pure false) : wpK U M A (exec (.Assign [.Name x pos'] value pos) env) Q E s := fun Γ p hΓ hU => by
  simp only [exec_Assign_Name env x pos' value pos hs, Sem.wp_bind', Sem.wp_cmd_standAt, Sem.wp_bindName, Sem.wp_pure']
  exact Sem.wp_mono M Γ _ (fun v _ s₁ h₁ => h₁ Γ _ hΓ hU) (fun _ _ _ h' => h') _ _ (h Γ _ hΓ hU)
theorem wpK_Try_except {body : List Stmt} {h₀ : ExceptHandler} {hs : List ExceptHandler} {pos : Pos} {Q : Flow → Shared → Prop}
    (h : wpK U M A (execs body env) (fun f s₁ => match f with | .next => Q .next s₁ | f => Q f s₁)
      (fun e s₁ => wpK U M A (noteFrame e env >>= fun _ => setFlight e none >>= fun _ => handleBy e env (h₀ :: hs)) Q E s₁) s) :
    wpK U M A (exec (.Try body (h₀ :: hs) [] [] pos) env) Q E s := by
  rw [arm_exec_Try]
  refine wpK_bind (wpK_standAt ?_)
  unfold tryStmt
  simp only [List.isEmpty_nil, if_true, List.isEmpty_cons, Bool.false_and, Bool.false_eq_true, if_false]
  refine wpK_bind (wpK_attempt (wpK_mono h (fun f s₁ h₁ => ?_) fun e s₁ h₁ => h₁))
  cases f with
  | next => exact wpAny.k (wpAny_execs_nil (by exact h₁))
  | brk => exact wpK_pure (by exact h₁)
  | cont => exact wpK_pure (by exact h₁)
  | ret v => exact wpK_pure (by exact h₁)
end

section
variable {G : Gn} {X W : Addr → Prop} {env : Env} {σ : List (Str × VD)} {cs : List (Addr × Cell)} {s : Shared}
theorem cell_one {l : List (Addr × Cell)} (hn : (l.map (·.1)).Nodup) {a : Addr} {c d : Cell} (h1 : (a, c) ∈ l) (h2 : (a, d) ∈ l) : c = d := by
  induction l with
  | nil => exact absurd h1 List.not_mem_nil
  | cons p r ih =>
    rw [List.map_cons, List.nodup_cons] at hn
    rcases List.mem_cons.mp h1 with e1 | h1
    · rcases List.mem_cons.mp h2 with e2 | h2
      · exact congrArg Prod.snd (e1.trans e2.symm)
      · exact absurd (List.mem_map_of_mem (f := (·.1)) h2) (by rw [← e1] at hn; exact hn.1)
    · rcases List.mem_cons.mp h2 with e2 | h2
      · exact absurd (List.mem_map_of_mem (f := (·.1)) h1) (by rw [← e2] at hn; exact hn.1)
      · exact ih hn.2 h1 h2
theorem ns_slots {h h' : Heap} {a : Addr} {m : Str → Option Value} (n : h.Ns a m) (hs : ∀ o, h.get? a = some o → ∃ sl, h'.get? a = some { o with slots := sl }) : h'.Ns a m := by
  obtain ⟨o, es, ep, e, r⟩ := n
  obtain ⟨sl, e'⟩ := hs o e
  exact ⟨_, es, ep, e', r⟩
noncomputable def FrL (W : Addr → Prop) (env : Env) (cs : List (Addr × Cell)) (L : Addr) : Prop := L = env.locals ∨ ∃ o, (L, Cell.frm o) ∈ cs ∧ W L
theorem FrL.out (i : In G X W env σ cs s) {L : Addr} (h : FrL W env cs L) : G.B.get? L = none ∧ Or2 X W L ∧ ∃ o, s.heap.get? L = some o ∧ (∀ vs, o.data ≠ .fields vs) ∧ ∀ v, o.data ≠ .cell v := by
  rcases h with rfl | ⟨o, hm, hw⟩
  · obtain ⟨m, o, es, ep, e, d, _⟩ := i.fr.ns
    exact ⟨(i.wb _ (i.fx _ (.inl rfl))).1, .inr (i.fx _ (.inl rfl)), o, e, (fun _ q => by rw [d] at q; cases q), fun _ q => by rw [d] at q; cases q⟩
  · obtain ⟨⟨sl, e⟩, es, ep, d⟩ := (i.ce _ hm).2.2
    exact ⟨(i.wb _ hw).1, .inr hw, _, e, (fun _ q => by rw [show o.data = _ from q] at d; cases d), fun _ q => by rw [show o.data = _ from q] at d; cases d⟩
end
end Mine
set_option maxRecDepth 100000
set_option maxHeartbeats 2000000
namespace Mine
open PySem PySem.W PyProof.Rows PySem.Calls

section
variable {prog : Program} {w : World} {A : Around} {G : Gn} {X W : Addr → Prop} {env : Env} {σ : List (Str × VD)} {cs : List (Addr × Cell)} {s : Shared}
/-- frames made ready: their slots alone change -/
theorem In.slotsQ {s' : Shared} (i : In G X W env σ cs s) {l : List Addr} (hl : ∀ L, L ∈ l → FrL W env cs L) (q : QS G (fun b => b ∈ l) s s')
    (hs : ∀ b o, b ∈ l → s.heap.get? b = some o → ∃ sl, s'.heap.get? b = some { o with slots := sl }) : In G X W env σ cs s' ∧ QS G W s s' := by
  have out := fun L (h : L ∈ l) => (hl L h).out i
  have wl : ∀ b, b ∈ l → W b := fun b m => (hl b m).elim (fun e => i.fx _ (.inl e)) fun ⟨_, _, h⟩ => h
  have hk : ∀ b o, b ∉ l → ¬ G.jk b → s.heap.get? b = some o → s'.heap.get? b = some o := q.keep
  have kk : ∀ b o, ¬ Or2 X W b → s.heap.get? b = some o → s'.heap.get? b = some o := fun b o n e => hk b o (fun m => n (out b m).2.1) (fun j => n (.inl (i.jk b j))) e
  have kw : ∀ b o, W b → b ∉ l → s.heap.get? b = some o → s'.heap.get? b = some o := fun b o h n e => hk b o n (i.wb b h).2 e
  have sl : ∀ b o, W b → s.heap.get? b = some o → ∃ sl, s'.heap.get? b = some { o with slots := sl } := fun b o h e => by
    by_cases m : b ∈ l
    · exact hs b o m e
    · exact ⟨o.slots, kw b o h m e⟩
  have nc : ∀ b v, s.heap.IsCell b v → b ∉ l := fun b v ⟨o, e, d⟩ m => by
    obtain ⟨o', e', _, d'⟩ := (out b m).2.2
    rw [e] at e'; cases e'
    exact d' _ d
  have wlo : W env.locals := i.fx _ (.inl rfl)
  have kc : ∀ n c v, env.cells.lookup n = some c → s.heap.IsCell c v → s'.heap.IsCell c v := fun n c v e h => by
    obtain ⟨o, e1, d⟩ := id h
    exact ⟨o, kw c o (i.fx c (.inr ⟨n, e⟩)) (nc c v h) e1, d⟩
  refine ⟨⟨q.gd i.gd, ⟨i.fr.kind, i.fr.gl, i.fr.bu, let ⟨m, n⟩ := i.fr.ns; ⟨m, ns_slots n fun o e => sl _ o wlo e⟩, fun n c e => let ⟨v, h⟩ := i.fr.cell n c e; ⟨v, kc n c v e h⟩, i.fr.apart⟩, i.fx, i.jk, fun a h => let ⟨o, e⟩ := i.hx a h; q.live a o e, i.wb, fun x d e => ?_, fun p hp => ?_, i.ap⟩, q.weak fun a h => .inl (wl a h)⟩
  · obtain ⟨v, n, r⟩ := i.nm x d e
    refine ⟨v, ?_, r.step kk fun _ _ n _ => n⟩
    rcases n with ⟨a, m, n, e⟩ | ⟨a, c, l', h⟩
    · exact .inl ⟨a, m, ns_slots n fun o e => sl _ o wlo e, e⟩
    · exact .inr ⟨a, c, l', kc _ c _ l' h⟩
  · obtain ⟨w1, f1, r1⟩ := i.ce p hp
    refine ⟨w1, f1, ?_⟩
    by_cases m : p.1 ∈ l
    · rcases hl _ m with q | ⟨o, hm, hw⟩
      · exact absurd (.inl q) f1
      · obtain ⟨a, c⟩ := p
        obtain rfl := cell_one i.ap hm hp
        obtain ⟨⟨sl0, e⟩, d⟩ := r1
        obtain ⟨sl1, e1⟩ := hs _ _ m e
        exact ⟨⟨sl1, e1⟩, d⟩
    · exact r1.step kk (fun _ _ n _ => n) fun o e => hk _ o m w1.2 e
theorem In.slots (i : In G X W env σ cs s) {l : List Addr} {h' : Heap} {tk : Nat} (hl : ∀ L, L ∈ l → FrL W env cs L) (hk : ∀ b o, b ∉ l → s.heap.get? b = some o → h'.get? b = some o)
    (hs : ∀ b o, b ∈ l → s.heap.get? b = some o → ∃ sl, h'.get? b = some { o with slots := sl }) : In G X W env σ cs { s with heap := h', toks := tk } ∧ QS G W s { s with heap := h', toks := tk } := by
  have out := fun L (h : L ∈ l) => (hl L h).out i
  have wl : ∀ b, b ∈ l → W b := fun b m => (hl b m).elim (fun e => i.fx _ (.inl e)) fun ⟨_, _, h⟩ => h
  refine i.slotsQ hl ⟨⟨h', tk, rfl⟩, fun b o n _ e => hk b o n e, fun b o e => ?_, fun g => ⟨⟨fun b o e => hk b o (fun m => by rw [(out b m).1] at e; cases e) (g.fr.keep b o e)⟩, fun t ht => ?_⟩⟩ hs
  · by_cases m : b ∈ l
    · obtain ⟨_, e'⟩ := hs b o m e; exact ⟨_, e'⟩
    · exact ⟨o, hk b o m e⟩
  · obtain ⟨f, c, ps, e, tr, k⟩ := g.tb t ht
    refine ⟨f, c, ps, hk _ _ (fun m => (i.wb _ (wl _ m)).2 ⟨t, ht, rfl⟩) e, tr, k.imp id ?_⟩
    rintro ⟨c', o, vs, tk', e1, e2, e3, r⟩
    refine ⟨c', o, vs, tk', e1, hk _ _ (fun m => ?_) e2, e3, r⟩
    obtain ⟨o', e', d, _⟩ := (out _ m).2.2
    rw [e2] at e'; cases e'
    exact d _ e3

/-- the frames that stand -/
structure FrA (W : Addr → Prop) (env : Env) (cs : List (Addr × Cell)) (A : Around) (outer : List Env) : Prop where
  fr : A.frames = some (env :: outer)
  top : env.frame = some env.locals
  all : ∀ e, e ∈ env :: outer → e.scope.kind ≠ .module ∧ ∃ L, e.frame = some L ∧ FrL W env cs L
theorem FrA.fun {outer : List Env} (i : In G X W env σ cs s) {base : Heap} : ∀ {l : List Env}, (∀ e, e ∈ l → e.scope.kind ≠ .module ∧ ∃ L, e.frame = some L ∧ FrL W env cs L) → (∀ L, L ∈ l.filterMap (·.frame) → base.get? L = none) → s.heap.FunFrames base l
  | [], _, _ => trivial
  | e :: r, h, hb => by
    obtain ⟨hk, L, hf, hL⟩ := h e (.head _)
    obtain ⟨_, _, o, eo, d, _⟩ := hL.out i
    rw [List.filterMap_cons, hf] at hb
    exact ⟨hk, ⟨L, o, hf, hb L (.head _), eo, d⟩, FrA.fun (outer := outer) i (fun e he => h e (.tail _ he)) fun L hL => hb L (.tail _ hL)⟩
/-- an exception of int() is caught -/
theorem caught {outer : List Env} {t : Expr} {b₀ : Stmt} {suite : List Stmt} {pos : Pos} {rest : List ExceptHandler} {Q : Flow → Shared → Prop} {h₁ : Heap} {tk : Nat} {e : Addr} (i : In G X W env σ cs s) (F : FrA W env cs A outer) (hx : Heap.NewExc s.heap h₁ e "ValueError")
    (ht : ∀ s', In G X W env σ cs s' → wpAny (model prog w) (A.mark (some (.ref e))) (eval t env) (fun c s₁ => c = .type "ValueError" ∧ s₁ = s') FF s')
    (h : ∀ s', In G X W env σ cs s' → QS G W s s' → wpAny (model prog w) (A.mark (some (.ref e))) (execs (b₀ :: suite) env) Q FF s') :
    wpAny (model prog w) A (noteFrame (.ref e) env >>= fun _ => setFlight (.ref e) none >>= fun _ => handleBy (.ref e) env (.ExceptHandler (some t) none (b₀ :: suite) pos :: rest)) Q FF { s with heap := h₁, toks := tk } := by
  have up : QQ G s { s with heap := h₁, toks := tk } := QS.up hx.keeps
  have i1 := i.quiet up
  obtain ⟨oe, te, he, hcls, hd⟩ := hx.there
  generalize hfl : (env :: outer).filterMap (·.frame) = fl
  have hall : ∀ L, L ∈ fl → FrL W env cs L := fun L hL => by
    rw [← hfl] at hL
    obtain ⟨e', he', q⟩ := List.mem_filterMap.mp hL
    obtain ⟨_, L', hf', hL'⟩ := F.all e' he'
    rw [hf'] at q; cases q
    exact hL'
  have bn : ∀ L, L ∈ fl → (hideAll s.heap fl).get? L = none := fun L hL => hideAll_none fl hL
  have ff : h₁.FunFrames (hideAll s.heap fl) (env :: outer) := FrA.fun (outer := outer) i1 F.all (by rw [hfl]; exact bn)
  have st : (hideAll s.heap fl).StaysIn h₁ := fun b o q => hx.keeps b o (of_hideAll fl q)
  have hen : (hideAll s.heap fl).get? e = none := by
    cases q : (hideAll s.heap fl).get? e with
    | none => rfl
    | some o => have := of_hideAll fl q; rw [hx.new] at this; cases this
  have he' : ({ s with heap := h₁, toks := tk } : Shared).heap.get? e = some oe := he
  have ne : wpAny (model prog w) A (do let a ← frameOf env; let pl ← entryPlaceOf env.locals false; let b ← EntryCells.newEntry .none a .none (rawInt env.locals) .none pl; setField (.ref e) 1 b) (fun _ s' => wpAny (model prog w) A (setFlight (.ref e) none) (fun _ s'' => ∃ h', Heap.Left (hideAll s.heap fl) (env :: outer) e oe.cls h₁ h' ∧ s'' = { s with heap := h', toks := tk }) FF s') FF { s with heap := h₁, toks := tk } :=
    wpAny_newEntry (vs := #[te, .none, .none, .none, .bool false, .none]) F.fr ff F.top he' st hen hd (show 1 < 6 by decide) fun h' left => ⟨h', left, rfl⟩
  have key : wpAny (model prog w) A (noteFrame (.ref e) env) (fun _ s' => wpAny (model prog w) A (setFlight (.ref e) none) (fun _ s'' => ∃ h', Heap.Left (hideAll s.heap fl) (env :: outer) e oe.cls h₁ h' ∧ s'' = { s with heap := h', toks := tk }) FF s') FF { s with heap := h₁, toks := tk } := by
    unfold noteFrame
    simp only [F.top]
    refine wpAny_bind (wpAny_field he' hd (x := .none) (by rfl) ?_)
    rw [if_neg (by decide)]
    exact ne
  refine wpAny_bind (wff key fun _ s2 h2 => wpAny_bind (wff h2 fun _ s3 ⟨h', left, e3⟩ => ?_))
  subst e3
  obtain ⟨L1, L2, ⟨oe', vs', T, oT, ts, x1, x2, x3, x4, x5, x6, x7, x8, x9⟩, L4⟩ := left
  have nin : ∀ b, s.heap.get? b = none → b ∉ fl := fun b q m => by
    obtain ⟨_, _, o, eo, _⟩ := (hall b m).out i
    rw [q] at eo; cases eo
  have islots : ∀ h'' tk', (∀ b o, b ∉ fl → s.heap.get? b = some o → h''.get? b = some o) → (∀ b o, b ∈ fl → h'.get? b = some o → h''.get? b = some o) → In G X W env σ cs { s with heap := h'', toks := tk' } ∧ QS G W s { s with heap := h'', toks := tk' } := fun h'' tk' k1 k2 =>
    i.slots hall k1 fun b o m q => by
      obtain ⟨_, _, o', eo, d, _⟩ := (hall b m).out i
      rw [q] at eo; cases eo
      obtain ⟨sl, q'⟩ := L4 b o (hx.keeps b o q) d
      exact ⟨sl, k2 b _ m q'⟩
  have k0 : ∀ b o, b ∉ fl → s.heap.get? b = some o → h'.get? b = some o := fun b o n q => L1 b o (hideAll_get fl q n)
  obtain ⟨i3, q3⟩ := islots h' tk k0 fun _ _ _ q => q
  refine wpAny_handleBy_builtin (T := "ValueError") (X := "ValueError") (b := true) PySem.F.isExc_ValueError PySem.F.notTuple_ValueError (by rw [isSubtype_type]; kernel_rfl) ?_
  refine wpAny_mono (ht _ i3) (fun c s4 ⟨ec, es⟩ => ?_) fun _ _ f => f.elim
  subst ec; subst es
  refine ⟨rfl, ⟨oe', x1, x2.trans hcls⟩, ?_⟩
  rw [if_pos rfl]
  have h3 : 3 < ts.size := (Array.getElem?_eq_some_iff.mp x9).1
  refine wpAny_setFlight_none x1 x3 x4 x7 x8 h3 ?_
  have nT : s.heap.get? T = none := by
    cases q : s.heap.get? T with
    | none => rfl
    | some o =>
      by_cases m : T ∈ fl
      · obtain ⟨_, _, o', eo, d, _⟩ := (hall T m).out i3
        have : h'.get? T = some o' := eo
        rw [x7] at this; cases this
        exact absurd x8 (d _)
      · rw [hideAll_get fl q m] at x5; cases x5
  obtain ⟨i4, q4⟩ := islots (h'.update T (Obj.mapFields (·.setIfInBounds 3 .none))) tk (fun b o n q => by
    rw [Heap.get?_update_other _ _ (fun z : T = b => by rw [z, q] at nT; cases nT)]; exact k0 b o n q) fun b o m q => by
    rw [Heap.get?_update_other _ _ (fun z : T = b => nin T nT (by rw [z]; exact m))]; exact q
  exact wpAny_mono (h _ i4 q4) (fun _ _ q => q) fun _ _ f => f.elim
end
end Mine
set_option maxRecDepth 100000
set_option maxHeartbeats 2000000
namespace Mine
open PySem PySem.W PyProof.Rows PySem.Calls

section
variable {prog : Program} {w : World} {A : Around} {G : Gn} {X W : Addr → Prop} {env : Env} {σ σ' : List (Str × VD)} {cs cs' : List (Addr × Cell)} {s : Shared}
/-- x.extend(e), e a tuple -/
theorem St1.extend {x : Str} {px apos cpos pos : Pos} {e : Expr} {a : Addr} {ds es : List PyData} (hl : σ.lookup x = some (.is (.ref a))) (he : Ev prog w A G X W env σ cs e (.dat (.tuple es))) (u : CU a (.lst ds) (.lst (ds ++ es)) cs cs') (wa : W a) (hsz : ds.length + es.length ≤ sizeLine)
    (hd : (x == ("__debug__" : Str)) = false := by decide)
    (hbase : attributeBase (.Name x px) "extend" env (eval (.Name x px) env) = eval (.Name x px) env := by rfl) (hs : starEach [e] env = [(false, eval e env)] := by rfl) (hline : (apos.endLine == cpos.line) = true := by rfl)
    (hi : interactive env = false := by rfl) (hsw : swapsWith (.Call (.Attribute (.Name x px) "extend" apos) [e] [] cpos) none pos.line env = pure false := by rfl) :
    St1 prog w A G X W env σ cs (.Expr (.Call (.Attribute (.Name x px) "extend" apos) [e] [] cpos) pos) σ cs' := by
  refine ⟨fun s i => ?_⟩
  refine wpAny_Expr (hi := hi) (hs := hsw) (Call_method1 hbase hs hline (wff ((Ev.name (pos := px) hl hd).run s i) fun v s₁ ⟨k, r⟩ => ?_))
  have r' : v = .ref a := r
  subst r'
  have i1 := i.quiet k
  obtain ⟨vs, n, e1, r1⟩ := i1.cell u.mem
  refine ⟨"list", _, PySem.F.plainAttrs_list, PySem.F.slot_list_extend, PySem.F.type_list_extend, ⟨_, e1, rfl⟩, fun b hb => by cases hb; exact ⟨_, e1, rfl⟩, ?_⟩
  refine seqMethod1_meets PySem.F.slot_list_extend PySem.F.entry_list_extend (wff (he.run s₁ i1) fun y s₂ ⟨k2, r2⟩ => ?_)
  have i2 := i1.quiet k2
  obtain ⟨vs, n, e2, p2⟩ := i2.cell u.mem
  obtain ⟨b, us, m, rfl, nb, e3, p3⟩ := Rd.tuple_inv r2
  have sz : vs.size + us.size ≤ sizeLine := by rw [Rd.size p2, Rd.size p3]; exact hsz
  have hs := (Heap.SameBut.update s₂.heap a (Obj.mapSeq fun xs => xs ++ us)).extBut
  have kx : ∀ b o, ¬ Or2 X W b → s₂.heap.get? b = some o → (s₂.heap.update a (Obj.mapSeq fun xs => xs ++ us)).get? b = some o := fun b o nb e => hs b o (fun z => nb (.inr (by rw [z]; exact wa))) e
  obtain ⟨i3, k3⟩ := i2.setCell (tk := s₂.toks) u wa (h := s₂.heap.update a (Obj.mapSeq fun xs => xs ++ us)) hs ⟨vs ++ us, _, get?_update_seq e2 _, by rw [Array.toList_append]; exact (p2.up kx).app (p3.up kx)⟩
  exact ⟨⟨_, e2, rfl⟩, PySem.F.args_list_extend_2 _ _, _, AutoSeq1.list_extend_list_tuple_0 a vs n b us m (extend_door sz) (Nat.le_trans (Nat.le_add_right _ _) sz) (Nat.le_succ_of_le sz), e2, e3, rfl, i3, (QQ.to (k.trans k2)).trans k3⟩

/-- _ver_stages -/
noncomputable def stages : List (Str × Int) := [("dev", 10), ("alpha", 20), ("a", 20), ("beta", 30), ("b", 30), ("c", 40), ("RC", 50), ("rc", 50), ("pl", 200), ("p", 200)]
noncomputable def stage (x : Str) : Int := (stages.lookup x).getD 0
structure VerOk (prog : Program) (w : World) (G : Gn) (d : Addr) : Prop where
  ns : (d == sysModules) = false
  tab : ∃ vs : List (Str × Value), G.B.DictOf (PySem.strKind prog w) d vs ∧ ∀ k, (valueAt vs k = none ∧ stage k = 0) ∨ ∃ t, valueAt vs k = some (.int (stage k) t)
  mg : G.mg "_ver_stages" = some (.ref d)
theorem Ev.stage {px apos pos p : Pos} {k : Nat} {e : Expr} {d : Addr} {x : Str} (hG : GOk G) (hV : VerOk prog w G d) (he : Ev prog w A G X W env σ cs e (S x)) (hx : env.kindOf "_ver_stages" = some .globalImplicit) (hs : starEach [e, .Constant (.int 0) k p] env = [(false, eval e env), (false, eval (.Constant (.int 0) k p) env)])
    (hline : (apos.endLine == pos.line) = true) (hbase : attributeBase (.Name "_ver_stages" px) "get" env (eval (.Name "_ver_stages" px) env) = eval (.Name "_ver_stages" px) env) :
    Ev prog w A G X W env σ cs (.Call (.Attribute (.Name "_ver_stages" px) "get" apos) [e, .Constant (.int 0) k p] [] pos) (I (stage x)) := by
  refine ⟨fun s i => ?_⟩
  refine Call_method2 hbase hs hline (wff ((Ev.global (pos := px) hG hV.mg hx).run s i) fun v s₁ ⟨k1, r⟩ => ?_)
  have r' : v = .ref d := r
  subst r'
  obtain ⟨vs, hD, hvs⟩ := hV.tab
  have i1 := i.quiet k1
  have hD1 := hD.keep i1.gd.fr.keep
  refine ⟨"dict", "dict.get", PySem.F.plainAttrs_dict, PySem.F.slot_dict_get, PySem.F.type_dict_get, hD1.typeIs, hD1.mapOf.noDict, ?_⟩
  refine wpAny_dict_get2 (knd := PySem.strKind prog w) hV.ns (wff (he.run s₁ i1) fun u s₂ ⟨k2, r2⟩ => wff ((Ev.const_int (k := k) (pos := p)).run s₂ (i1.quiet k2)) fun z s₃ ⟨k3, r3⟩ => ?_)
  obtain ⟨⟨t, rfl⟩, _⟩ := Rd.str_inv r2
  obtain ⟨t', rfl⟩ := Rd.int_inv r3
  refine ⟨x, valueAt vs, strKind_is prog w x t, (hD.keep ((i1.quiet k2).quiet k3).gd.fr.keep).mapOf, ((k1.trans k2).trans k3).trans QS.toks, ?_⟩
  rcases hvs x with ⟨e1, e2⟩ | ⟨t2, e1⟩
  · rw [e1, e2]; exact .int _ _
  · rw [e1]; exact .int _ _

/-- try, nothing raised -/
theorem St1.tryOk {body : List Stmt} {h₀ : ExceptHandler} {hs : List ExceptHandler} {pos : Pos} (h : Ex prog w A G X W env σ cs body (At W σ' cs')) : St1 prog w A G X W env σ cs (.Try body (h₀ :: hs) [] [] pos) σ' cs' := by
  refine ⟨fun s i => wpAny_Try_except (wff (wpK.any (h.run s i)) fun f s' o => ?_)⟩
  obtain ⟨fd, W2, σ2, cs2, ⟨rfl, rfl, rfl, rfl⟩, i2, k2, _, r⟩ := o
  cases f with
  | next => exact wpAny_execs_nil ⟨rfl, i2, k2⟩
  | _ => exact r.elim
/-- int(v, 10) raises, and is caught -/
theorem St1.tryInt {outer : List Env} {x v : Str} {p1 p2 p3 p4 p5 p6 p7 p8 pos : Pos} {k : Nat} {body suite : List Stmt} {b₀ : Stmt} (hG : GOk G) (hb : BiAt G "int" (.type "int")) (hv : BiAt G "ValueError" (.type "ValueError")) (hx : σ.lookup v = some (S x)) (fA : FrA W env cs A outer) (hh : A.handled = none)
    (hlen : x.length ≤ 640) (hr : (reprText x).length ≤ 1000) (hn : PySem.intText? x = none) (hi : env.kindOf "int" = some .globalImplicit) (hve : env.kindOf "ValueError" = some .globalImplicit) (hd : (v == ("__debug__" : Str)) = false)
    (hsw : swapsWith (.Call (.Name "int" p2) [.Name v p3, .Constant (.int 10) k p4] [] p5) (some (.Name v p1)) p6.line env = pure false)
    (h : ∀ e, Ex prog w (A.mark (some e)) G X W env σ cs (b₀ :: suite) (At W σ' cs')) :
    St1U Un.und prog w A G X W env σ cs (.Try (.Assign [.Name v p1] (.Call (.Name "int" p2) [.Name v p3, .Constant (.int 10) k p4] [] p5) p6 :: body) [.ExceptHandler (some (.Name "ValueError" p7)) none (b₀ :: suite) p8] [] [] pos) σ' cs' := by
  refine ⟨fun s i => wpK_Try_except (wpK_execs_cons (wpK_Assign_Name (wpK_Call_Name ?_) hsw))⟩
  refine kff (wpAny.k ((Ev.bi (pos := p2) hG hb hi).run s i)) fun f s₁ ⟨k1, r1⟩ => ?_
  have r' : f = .type "int" := r1
  subst r'
  have i1 := i.quiet k1
  refine callWithK_type rfl ?_
  have hargs : EvA prog w A G X W env σ cs [.Name v p3, .Constant (.int 10) k p4] [] [S x, I 10] [] := EvA.plain (EvL.cons (Ev.name hx hd) (EvL.cons Ev.const_int EvL.nil star_const) star_name) star_name
  refine kff (wpAny.k (hargs.run _ p5 s₁ i1)) fun a s₂ ⟨k2, hk, r2⟩ => ?_
  have i2 := i1.quiet k2
  obtain ⟨ap, ak⟩ := a
  obtain rfl : ak = [] := hk
  obtain _ | ⟨ra, _ | ⟨rb, _ | _⟩⟩ := r2
  obtain ⟨⟨t, rfl⟩, _⟩ := Rd.str_inv ra
  obtain ⟨u, rfl⟩ := Rd.int_inv rb
  refine call_int_bad hlen hr hn hh fun h' tk e hne => ?_
  refine wpAny.k (wff (caught i2 fA hne (fun s' i' => ?_) fun s' i' q => ?_) fun f s3 hq => hq)
  · refine Calls.Name_function_global i'.fr.kind hve (Calls.loadGlobal_builtin (by rw [i'.fr.gl]; exact hG.g.keeps i'.gd.fr.keep) hv.1 (by rw [i'.fr.bu]; exact hG.b.keeps i'.gd.fr.keep) hv.2 ⟨rfl, rfl⟩)
  · refine wff (wpK.any ((h (.ref e)).run s' i')) fun f s3 o => ?_
    obtain ⟨fd, W2, σ2, cs2, ⟨rfl, rfl, rfl, rfl⟩, i3, k3, _, r⟩ := o
    cases f with
    | next => exact ⟨rfl, i3, ((QQ.to (k1.trans k2)).trans q).trans k3⟩
    | _ => exact r.elim
end
end Mine
set_option maxRecDepth 100000
set_option maxHeartbeats 2000000
namespace Mine
open PySem PySem.W PyProof.Rows PySem.Calls

noncomputable def compCode : Array Nat := #[14,4,0,1,4294967295,17,0,7,14,24,10,1,4294967295,13,5,22,48,57,0,1,15,17,15,13,11,9,0,26624,2147483648,0,0,0,0,0,0,15,2,0,17,1,1]
noncomputable def comp1 (y : Str) : List PyData := if Txt.contains "._+-" y then [] else match PySem.intText? y with | some n => [.int 100, .int n] | none => [.int (stage y), .str y]
noncomputable def compL (ys : List Str) : List PyData := ys.flatMap comp1
structure VerStr (x : Str) (parts : List Str) : Prop where
  len : x.length < 1000
  split : ∃ N f, splitR compCode x.cps N f 0 false = some parts ∧ f ≤ 2 * x.length + 3 ∧ N < 1000
  small : parts.length < 400
  part : ∀ y, y ∈ parts → PyData.strOk y = true ∧ y.length ≤ 640 ∧ (reprText y).length ≤ 1000
structure VerEnv (prog : Program) (w : World) (G : Gn) (d re : Addr) : Prop where
  gok : GOk G
  ver : VerOk prog w G d
  twin : G.mg "_twin_re_1" = some (.ref re)
  pat : PatAt G re compCode 1
  int' : BiAt G "int" (.type "int")
  exc' : BiAt G "ValueError" (.type "ValueError")
noncomputable def frs (fs : List (Addr × Obj)) : List (Addr × Cell) := fs.map fun p => (p.1, .frm p.2)
noncomputable def FrOut (fs : List (Addr × Obj)) (A : Around) : Prop := ∃ outer, A.frames = some outer ∧ ∀ e, e ∈ outer → e.scope.kind ≠ .module ∧ ∃ p, p ∈ fs ∧ e.frame = some p.1
theorem frs_mem {fs : List (Addr × Obj)} {p : Addr × Obj} (h : p ∈ fs) : (p.1, Cell.frm p.2) ∈ frs fs := List.mem_map_of_mem (f := fun p : Addr × Obj => (p.1, Cell.frm p.2)) h
theorem comp1_len (y : Str) : (comp1 y).length ≤ 2 := by
  unfold comp1
  split
  · exact Nat.zero_le _
  · split <;> exact Nat.le_refl _
theorem compL_len : ∀ ys : List Str, (compL ys).length ≤ 2 * ys.length
  | [] => Nat.le_refl _
  | y :: r => by
    have h1 := comp1_len y
    have h2 := compL_len r
    show (comp1 y ++ compL r).length ≤ 2 * (r.length + 1)
    rw [List.length_append]; lia
section
variable {prog : Program} {w : World} {A : Around} {G : Gn} {X W : Addr → Prop} {env : Env} {σ σ' : List (Str × VD)} {cs cs' : List (Addr × Cell)} {s : Shared}
theorem Ev.int10 {v x : Str} {p2 p3 p4 p5 : Pos} {k : Nat} {n : Int} (hG : GOk G) (hb : BiAt G "int" (.type "int")) (hx : σ.lookup v = some (S x)) (hlen : x.length ≤ 640) (hn : PySem.intText? x = some n) (hi : env.kindOf "int" = some .globalImplicit) (hd : (v == ("__debug__" : Str)) = false) :
    Ev prog w A G X W env σ cs (.Call (.Name "int" p2) [.Name v p3, .Constant (.int 10) k p4] [] p5) (I n) := by
  refine ⟨fun s i => ?_⟩
  refine Call_Name rfl (wff ((Ev.bi (pos := p2) hG hb hi).run s i) fun f s₁ ⟨k1, r1⟩ => ?_)
  have r' : f = .type "int" := r1
  subst r'
  have hl : EvL prog w A G X W env σ cs [.Name v p3, .Constant (.int 10) k p4] [S x, I 10] := EvL.cons (Ev.name hx hd) (EvL.cons Ev.const_int EvL.nil star_const) star_name
  refine PyProof.Rows.callWith_type1 (wff (hl.run p5 s₁ (i.quiet k1)) fun vs s₂ ⟨k2, r2⟩ => ?_)
  rcases r2 with _ | ⟨ra, _ | ⟨rb, _ | _⟩⟩
  obtain ⟨⟨t, rfl⟩, _⟩ := Rd.str_inv ra
  obtain ⟨u, rfl⟩ := Rd.int_inv rb
  exact call_int_val hlen hn fun tk z => ⟨(k1.trans k2).trans QS.toks, .int _ _⟩
theorem compv_law {a d re : Addr} {fs : List (Addr × Obj)} {fd : FuncData} {x : Str} {parts : List Str} (hV : VerEnv prog w G d re) (h : IsFn G a (theDef 11) fd) (hx : VerStr x parts) :
    FnU Un.und (fun A => Aok A 4 ∧ FrOut fs A) prog w G (.ref a) (fs.map (·.1)) (frs fs) (frs fs) [] [S x] (.dat (.list (compL parts))) := by
  obtain ⟨nm, q, kd, doc, pm, cv, ct, rfl⟩ := h.is
  obtain ⟨N, f, hsp, hf, hN⟩ := hx.split
  refine FnU.of_def (σ := [("version", S x)]) hV.gok (h.def rfl rfl rfl) (show ([("version" : Str)]).Nodup by decide) (fun k x hx => ?_) (bind1 fun v => rfl) (fun A hA => by have := hA.1.dp; lia) fun A L X ⟨hA, hF⟩ => ?_
  · simp only [List.map_cons, List.map_nil, List.mem_singleton] at hx
    subst hx
    exact .inl rfl
  have hA' := (hA.le (by decide : 3 + 1 ≤ 4)).deeper (callEnvC (fnOf (theDef 11) nm q kd doc pm cv ct) L a)
  generalize hAd : A.deeper (callEnvC (fnOf (theDef 11) nm q kd doc pm cv ct) L a) = Ad at hA'
  refine Ex.step (St1.assign (Ev.global hV.gok hV.twin rfl) (.inl rfl)) ?_
  refine Ex.newList (ds := []) EvL.nil rfl (by decide +kernel) (.inl rfl) fun ar har => ?_
  have hfr : ∀ cs, (∀ p, p ∈ frs fs → p ∈ cs) → ∃ outer, FrA (Wn (callW (fnOf (theDef 11) nm q kd doc pm cv ct) L a (fs.map (·.1))) ar) (callEnvC (fnOf (theDef 11) nm q kd doc pm cv ct) L a) cs Ad outer := fun cs hm => by
    obtain ⟨outer, e1, e2⟩ := hF
    refine ⟨outer, ⟨by rw [← hAd]; show A.frames.map _ = _; rw [e1]; rfl, rfl, fun e he => ?_⟩⟩
    rcases List.mem_cons.mp he with rfl | he
    · exact ⟨by show (defScope (theDef 11)).kind ≠ _; decide, L, rfl, .inl rfl⟩
    · obtain ⟨hk, p, e3, e4⟩ := e2 e he
      exact ⟨hk, p.1, e4, .inr ⟨p.2, hm _ (frs_mem e3), .inl (.inr (List.mem_map_of_mem e3))⟩⟩
  have hw : (Wn (callW (fnOf (theDef 11) nm q kd doc pm cv ct) L a (fs.map (·.1))) ar) ar := .inr rfl
  refine Ex.forS (fun _ => True) trivial (xs := parts) (enc := PyData.str) (bnd := fun y => [("v", S y)]) (inv := fun _ => [("result", .is (.ref ar)), ("component_re", .is (.ref re)), ("version", S x)]) (cinv := fun j => (ar, .lst (compL (parts.take j))) :: frs fs)
    (EvS.split hA'.hh hV.pat (Ev.name rfl) (Ev.name rfl) hx.len hsp hf hN (fun y hy => (hx.part y hy).1) star_name rfl rfl) (fun y _ => Tgt.name (.inl rfl)) (fun _ _ e => e) (List.Sublist.refl _) (fun _ => rfl) ?_ (fun _ => ?_)
  · intro j y hy _ X'
    have hym := List.mem_of_getElem? hy
    obtain ⟨hok, h640, hrep⟩ := hx.part y hym
    have htk : compL (parts.take (j + 1)) = compL (parts.take j) ++ comp1 y := by
      unfold compL
      rw [List.take_add_one, hy, List.flatMap_append]
      simp
    have hsz : (compL (parts.take j)).length + 2 ≤ sizeLine := by
      have := compL_len (parts.take j)
      have h2 : (parts.take j).length ≤ parts.length := by rw [List.length_take]; exact Nat.min_le_right _ _
      have := hx.small
      rw [sizeLine_eq]; lia
    generalize compL (parts.take j) = acc at *
    rw [htk]
    have ht : Tr prog w Ad G X' (Wn (callW (fnOf (theDef 11) nm q kd doc pm cv ct) L a (fs.map (·.1))) ar) (callEnvC (fnOf (theDef 11) nm q kd doc pm cv ct) L a) (("v", S y) :: [("result", .is (.ref ar)), ("component_re", .is (.ref re)), ("version", S x)]) ((ar, .lst acc) :: frs fs) (.Compare (.Name "v" ⟨107, 11, 107, 12⟩) [.NotIn] [.Constant (.str "._+-") 0 ⟨107, 20, 107, 26⟩] ⟨107, 11, 107, 26⟩) (!Txt.contains "._+-" y) :=
      Tr.cmp (x := S y) (y := S "._+-") (Ev.name rfl) Ev.const_str notInS
    have hext : ∀ (t : Int) (d : PyData) (σ : List (Str × VD)), σ.lookup ("t" : Str) = some (I t) → σ.lookup ("v" : Str) = some (.dat d) → σ.lookup ("result" : Str) = some (.is (.ref ar)) → St1 prog w Ad G X' (Wn (callW (fnOf (theDef 11) nm q kd doc pm cv ct) L a (fs.map (·.1))) ar) (callEnvC (fnOf (theDef 11) nm q kd doc pm cv ct) L a) σ ((ar, .lst acc) :: frs fs)
        (.Expr (.Call (.Attribute (.Name "result" ⟨113, 12, 113, 18⟩) "extend" ⟨113, 12, 113, 25⟩) [.Tuple [.Name "t" ⟨113, 27, 113, 28⟩, .Name "v" ⟨113, 30, 113, 31⟩] 0 ⟨113, 26, 113, 32⟩] [] ⟨113, 12, 113, 33⟩) ⟨113, 12, 113, 33⟩) σ ((ar, .lst (acc ++ [.int t, d])) :: frs fs) :=
      fun t d σ e1 e2 e3 => St1.extend e3 (EvD.tuple [.int t, d] (EvD.cons (Ev.name e1) (EvD.cons (Ev.name e2) EvD.nil star_name) star_name) (by show 2 ≤ 1000; decide)) .head hw hsz
    have hsub : ∀ {σ : List (Str × VD)}, σ.lookup ("result" : Str) = some (.is (.ref ar)) → σ.lookup ("component_re" : Str) = some (.is (.ref re)) → σ.lookup ("version" : Str) = some (S x) → ∀ z d, ([("result", .is (.ref ar)), ("component_re", .is (.ref re)), ("version", S x)] : List (Str × VD)).lookup z = some d → σ.lookup z = some d :=
      fun h1 h2 h3 => sub_cons h1 (sub_cons h2 (sub_cons h3 sub_nil))
    cases hc : Txt.contains "._+-" y with
    | true =>
      refine Ex.skip (ht.conv (by rw [hc]; rfl)) (Ex.nil (.inl ⟨.inl rfl, trivial, rfl, hsub rfl rfl rfl, ?_⟩))
      rw [comp1, if_pos hc, List.append_nil]; exact List.Sublist.refl _
    | false =>
      have hc1 : comp1 y = match PySem.intText? y with | some n => [.int 100, .int n] | none => [.int (stage y), .str y] := by rw [comp1, if_neg (by rw [hc]; decide)]
      refine Ex.thenLast (ht.conv (by rw [hc]; rfl)) ?_
      cases hn : PySem.intText? y with
      | some n =>
        rw [hn] at hc1
        refine Ex.step (St1.tryOk (σ' := ("t", I 100) :: ("v", I n) :: ("v", S y) :: [("result", .is (.ref ar)), ("component_re", .is (.ref re)), ("version", S x)]) (Ex.step (St1.assign (Ev.int10 (v := "v") hV.gok hV.int' rfl h640 hn rfl (by decide)) (.inl rfl) rfl) (Ex.step (St1.assign Ev.const_int (.inl rfl)) Ex.end))) ?_
        refine Ex.step (hext 100 (.int n) _ rfl rfl rfl) (Ex.nil (.inl ⟨.inl rfl, trivial, rfl, hsub rfl rfl rfl, ?_⟩))
        rw [hc1]; exact List.Sublist.refl _
      | none =>
        rw [hn] at hc1
        obtain ⟨outer, fA⟩ := hfr ((ar, .lst acc) :: frs fs) (fun p hp => .tail _ hp)
        refine Ex.stepU (St1.tryInt (v := "v") (cs' := ((ar, .lst acc) :: frs fs)) (σ' := ("t", I (stage y)) :: ("v", S y) :: [("result", .is (.ref ar)), ("component_re", .is (.ref re)), ("version", S x)]) hV.gok hV.int' hV.exc' rfl fA hA'.hh h640 hrep hn rfl rfl (by decide) rfl fun e => ?_) ?_
        · exact Ex.step (St1.assign (Ev.stage hV.gok hV.ver (Ev.name rfl) rfl rfl rfl rfl) (.inl rfl)) (Ex.end)
        · refine Ex.step (hext (stage y) (.str y) _ rfl rfl rfl) (Ex.nil (.inl ⟨.inl rfl, trivial, rfl, hsub rfl rfl rfl, ?_⟩))
          rw [hc1]; exact List.Sublist.refl _
  · refine Ex.retCell (a := ar) (ds := compL (parts.take parts.length)) rfl (.head _) har ⟨.inl ?_, fun p hp => ?_⟩
    · rw [List.take_length]
    · exact .tail _ hp
end
end Mine
set_option maxRecDepth 100000
set_option maxHeartbeats 2000000
namespace Mine
open PySem PySem.W PyProof.Rows PySem.Calls

section
variable {prog : Program} {w : World} {A : Around} {G : Gn} {X W : Addr → Prop} {env : Env} {σ σ' : List (Str × VD)} {cs cs' : List (Addr × Cell)} {s : Shared}
/-- for .. in a list of one's own that is empty -/
theorem Ex.forNil {U : Un} {target iter : Expr} {pos : Pos} {body rest : List Stmt} {enc : Unit → PyData} {Q : Post} (hit : EvJ prog w A G X W env σ cs iter [] enc) (hrest : ExU U prog w A G X W env σ cs rest Q)
    (hs : ∀ v, foldedSetIterable iter env v = pure v) : ExU U prog w A G X W env σ cs (.For target iter body [] pos :: rest) Q := by
  refine Ex.step (σ' := σ) (cs' := cs) ⟨fun s i => ?_⟩ hrest
  refine wpAny_For (hs := hs) (wff (hit.run s i) fun xv s₁ ⟨k, hl, hsrc⟩ => wff (hsrc _ ?_) fun _ _ q => q)
  intro oI fp P St K hfp fpj hst hIo hP
  have i1 := i.quiet k
  have hf : s₁.heap.get? s₁.heap.objs.size = none := Heap.get?_none_of_le (Nat.le_refl _)
  obtain ⟨nB, nj, nX⟩ := i1.noB hf
  obtain ⟨o0, ho0, nc0, _⟩ := hIo 0 _ hst
  have kp : QQ G s₁ { s₁ with heap := s₁.heap.push oI } := QS.push _
  have iw := i1.widen kp hf ho0
  refine codeAny_forLoop_any (fun c s' => c = 1 ∧ s' = { s₁ with heap := s₁.heap.push oI }) ?_ 1 ⟨rfl, rfl⟩
  rintro c s' ⟨rfl, rfl⟩
  refine K.done _ _ _ hst fun h₂ tk₂ hk₂ => ?_
  have hs2 : Heap.ExtBut s₁.heap.objs.size (s₁.heap.push oI) h₂ := fun b o nb e => hk₂ b o (by simpa using nb) e
  refine wpAny_execs_nil ⟨rfl, iw.forget (tk := tk₂) i.jk nX hs2 ho0 nc0 nB (i1.ceNe nX), ?_⟩
  exact (QQ.to k).trans (QQ.to (kp.drop hs2 hf ho0 nc0 nB nj))
/-- type(x) is not list, of a list of one's own -/
theorem Tr.listNot {f g : Str} {pf pg pos cpos : Pos} {e : Expr} {a : Addr} {ds : List PyData} (hf : Ev prog w A G X W env σ cs (.Name f pf) (.is (.type "type"))) (hg : Ev prog w A G X W env σ cs (.Name g pg) (.is (.type "list"))) (he : Ev prog w A G X W env σ cs e (.is (.ref a))) (hm : (a, Cell.lst ds) ∈ cs) (hs : starEach [e] env = (false, eval e env) :: starEach [] env) :
    Tr prog w A G X W env σ cs (.Compare (.Call (.Name f pf) [e] [] cpos) [.IsNot] [.Name g pg] pos) false := by
  refine Tr.cmp (x := .is (.type "list")) (y := .is (.type "list")) ⟨fun s i => ?_⟩ hg ?_
  · refine Call_Name rfl (wff (hf.run s i) fun fv s₁ ⟨k, r⟩ => ?_)
    have r' : fv = .type "type" := r
    subst r'
    refine PyProof.Rows.callWith_type1 (wff ((EvL.cons he EvL.nil hs).run cpos s₁ (i.quiet k)) fun vs s₂ ⟨k2, r2⟩ => ?_) hs
    cases r2 with
    | @cons v _ _ _ r3 p =>
    cases p
    have r' : v = .ref a := r3
    subst r'
    obtain ⟨its, n, e2, _⟩ := ((i.quiet k).quiet k2).cell hm
    have ty : s₂.TypeIs (.ref a) "list" := ⟨_, e2, rfl⟩
    exact call_type_of ty (by decide) ⟨k.trans k2, rfl⟩
  · intro s a b _ ha hb
    have ha' : a = .type "list" := ha
    have hb' : b = .type "list" := hb
    subst ha' hb'
    exact wpAny_isNot_self (by decide) ⟨QS.refl s, .bool _⟩

/-- self._headers, stored first -/
noncomputable def HdSet (prog : Program) (w : World) (G : Gn) : Prop :=
  ∀ A s x D v (Q : Unit → Shared → Prop), Gd G s.heap → s.heap.get? x = some (instObj G.C D) → s.heap.get? D = some emptyDict →
    (∀ h' tk k t n, Heap.ExtBut D s.heap h' → h'.get? D = some (dictOf [⟨k, .str "_headers" t, v⟩] n) → Q () { s with heap := h', toks := tk }) → wpAny (model prog w) A (setAttr (.ref x) "_headers" v) Q FF s
structure HdNew (prog : Program) (w : World) (G : Gn) (fI : Addr) : Prop where
  cls : G.mg "Headers" = some (.ref G.C)
  fn : ∃ dT n fd nm q kd doc pm cv ct, fd = { fnOf (theMeth 0) nm q kd doc pm cv ct with defaults := .ref dT } ∧ (∃ o, G.B.get? fI = some o ∧ o.data = .func fd) ∧ G.B.CodeRec fd.code fd.qualname ∧ ∃ o, G.B.get? dT = some o ∧ o.data = .seq #[.none] n
  makes : ∀ h, Gd G h → Makes (model prog w) h G.C ∧ Looks (model prog w) h (typeLookup (.ref G.C) "__init__") (some (.ref fI)) ∧ ∀ self, Looks (model prog w) h (bindSpecial (.ref fI) self) (.ref fI, [self])
  set : HdSet prog w G
  ln : G.B.NoLimit

theorem init_bind {nm q : Str} {kd doc pm cv ct v : Value} {dT n : Nat} {s : Shared} {o : Obj} (ho : s.heap.get? dT = some o) (hd : o.data = .seq #[.none] n) :
    BindsTo s { fnOf (theMeth 0) nm q kd doc pm cv ct with defaults := .ref dT } ⟨[v], []⟩ [("self", v), ("headers", .none)] :=
  BindsTo.of_defaults rfl ho hd (by rfl) (by kernel_rfl)
/-- __init__, told nothing -/
theorem init_law {fI x D : Addr} {R : Result → Shared → Prop} (hG : GOk G) (hB : Bis G) (hN : HdNew prog w G fI) (hA : Aok A 2) (i : Ok G X s) (hx : s.heap.get? x = some (instObj G.C D)) (hD : s.heap.get? D = some emptyDict) (hxX : X x ∧ G.B.get? x = none ∧ ¬ G.jk x) (hDX : X D ∧ G.B.get? D = none ∧ ¬ G.jk D) (hne : D ≠ x)
    (h : ∀ a k t n s', s.heap.get? a = none → QS G (fun b => b ∈ [D, x]) s s' → s'.heap.get? x = some (instObj G.C D) → s'.heap.get? D = some (dictOf [⟨k, .str "_headers" t, .ref a⟩] n) → (Cell.lst []).At X s'.heap a → R (.ok (.ret .none)) s') :
    codeAny (model prog w) A (.call (.ref fI) ⟨[.ref x], []⟩) R s := by
  obtain ⟨dT, n, fd, nm, q, kd, doc, pm, cv, ct, rfl, hob, hcode, oT, hoT, hdT⟩ := hN.fn
  have D0 : Def G fI { fnOf (theMeth 0) nm q kd doc pm cv ct with defaults := .ref dT } (defBody (theMeth 0)) := ⟨hob, hcode, rfl, rfl, rfl, rfl, rfl, rfl, rfl⟩
  have key := call_of_def (prog := prog) (w := w) (A := A) (U := Un.all) (σ := [("self", .is (.ref x)), ("headers", .dat .none)]) (cs := [(D, .obj emptyDict), (x, .obj (instObj G.C D))]) (Wr := [D, x]) (kw := []) (xs := [.is (.ref x)]) (vs := [.ref x])
    (R := fun v s' => v = .none ∧ ∃ a k t n, s.heap.get? a = none ∧ QS G (fun b => b ∈ [D, x]) s s' ∧ s'.heap.get? x = some (instObj G.C D) ∧ s'.heap.get? D = some (dictOf [⟨k, .str "_headers" t, .ref a⟩] n) ∧ (Cell.lst []).At X s'.heap a)
    (Q := fun f W' _ cs' => f = .next ∧ ∃ a k t n, W' a ∧ ¬ X a ∧ (D, Cell.obj (dictOf [⟨k, .str "_headers" t, .ref a⟩] n)) ∈ cs' ∧ (x, Cell.obj (instObj G.C D)) ∈ cs' ∧ (a, Cell.lst []) ∈ cs')
    hG D0 (show ([("self" : Str), ("headers" : Str)]).Nodup by decide) (fun k y hy => ?_) (fun A X s vs i r => ?_) (by have := hA.dp; lia) i (fun a ha => ?_) (fun p hp => ?_) ?_ (.cons rfl .nil) (fun L => ?_) fun L f W' σ' cs'' s₃ fx hq i3 q3 hw v rv => ?_
  · refine fun Γ p hc hΓ => wpCode_mono (fun r s' hr => ?_) (key Γ p hc hΓ trivial)
    rcases r with e | (v | _ | _ | _) <;> first | exact hr.elim | skip
    obtain ⟨rfl, a, k, t, n, h1, h2, h3, h4, h5⟩ := hr
    exact h a k t n s' h1 h2 h3 h4 h5
  · simp only [List.map_cons, List.map_nil, List.mem_cons, List.not_mem_nil, or_false] at hy
    rcases hy with rfl | rfl <;> exact .inl rfl
  · obtain _ | ⟨r1, _ | _⟩ := r
    exact init_bind (i.gd.fr.keep _ _ hoT) hdT _ _ _ _ ⟨QS.refl s, rfl, .cons r1 (.cons .none .nil)⟩
  · rcases List.mem_cons.mp ha with rfl | ha
    · exact hDX
    · rw [List.mem_singleton.mp ha]; exact hxX
  · rcases List.mem_cons.mp hp with rfl | hp
    · exact ⟨hDX.1, hDX.2.2, hD, fun _ => nofun⟩
    · rw [List.mem_singleton.mp hp]; exact ⟨hxX.1, hxX.2.2, hx, fun _ => nofun⟩
  · show ([D, x] : List Addr).Nodup
    rw [List.nodup_cons]
    exact ⟨fun h => hne (List.mem_singleton.mp h), List.nodup_cons.mpr ⟨List.not_mem_nil, List.nodup_nil⟩⟩
  · have hA' : Aok (A.deeper (callEnvC { fnOf (theMeth 0) nm q kd doc pm cv ct with defaults := .ref dT } L fI)) 1 := hA.deeper _
    have hwD : ∀ a, Wn (callW { fnOf (theMeth 0) nm q kd doc pm cv ct with defaults := .ref dT } L fI [D, x]) a D := fun a => .inl (.inr (.head _))
    refine Ex.making (x := "headers") (c := .lst []) (fun s i => ?_) fun a ha => ?_
    · refine wpAny_Assign_Name (hs := rfl) (wpAny_IfExp ?_)
      refine wff ((Tr.cmp (x := .dat .none) (y := .dat .none) (b := false) (Ev.name (by kernel_rfl)) Ev.const_none isNotNoneD).run s i) fun r s₁ ⟨k, e⟩ => ?_
      subst e
      refine wpAny_List (wff (EvL.nil.run _ s₁ (i.quiet k)) fun vs s₂ ⟨k2, r2⟩ => ⟨by cases r2; exact Nat.zero_le _, ?_⟩)
      cases r2
      have i2 := (i.quiet k).quiet k2
      have hf : s₂.heap.get? s₂.heap.objs.size = none := Heap.get?_none_of_le (Nat.le_refl _)
      have kp : QQ G s₂ { s₂ with heap := s₂.heap.push { cls := .type "list", data := .seq (List.toArray []) } } := QS.push _
      have i3 := i2.newCell (c := .lst []) kp hf ⟨_, 0, Heap.get?_push_size _ rfl, .nil⟩
      exact wpAny_mono (i3.store (d := .is (.ref s₂.heap.objs.size)) rfl (.inl rfl)) (fun _ s₃ ⟨i4, k4⟩ => ⟨rfl, _, fresh_back (k.trans k2) hf, i4, (QQ.to ((k.trans k2).trans kp)).trans k4⟩) fun _ _ e => e
    refine Ex.skip (Tr.listNot (a := a) (ds := []) (Ev.bi hG hB.type') (Ev.bi hG hB.list') (Ev.name (by kernel_rfl)) (.head _) star_name) ?_
    refine Ex.cons (Q1 := fun fd W' σ' cs' => fd = .next ∧ W' = Wn (callW { fnOf (theMeth 0) nm q kd doc pm cv ct with defaults := .ref dT } L fI [D, x]) a ∧ σ' = ([("headers", .is (.ref a)), ("self", .is (.ref x)), ("headers", .dat .none)] : List (Str × VD)) ∧ ∃ k t n, cs' = [(a, .lst []), (D, .obj (dictOf [⟨k, .str "_headers" t, .ref a⟩] n)), (x, .obj (instObj G.C D))]) ⟨fun s i => wpAny.k ?_⟩ ?_ (fun fd _ _ _ ne q => absurd q.1 ne)
    · refine plainObj_wpAny_Assign_Attribute (wff ((Ev.name (d := .is (.ref a)) (by kernel_rfl)).run s i) fun v s₁ ⟨k1, r1⟩ => wff ((Ev.name (d := .is (.ref x)) (by kernel_rfl)).run s₁ (i.quiet k1)) fun ov s₂ ⟨k2, r2⟩ => ?_) rfl
      have r1' : v = .ref a := r1
      have r2' : ov = .ref x := r2
      subst r1' r2'
      have i2 := (i.quiet k1).quiet k2
      refine hN.set _ s₂ x D _ _ i2.gd (i2.cell (c := .obj _) (.tail _ (.tail _ (.head _)))).1 (i2.cell (c := .obj _) (.tail _ (.head _))).1 fun h' tk k t n hb hd => ?_
      have sc := i2.setCell (tk := tk) (c' := .obj (dictOf [⟨k, .str "_headers" t, .ref a⟩] n)) (.tail .head) (hwD a) hb ⟨hd, fun _ => nofun⟩
      exact ⟨.next, _, _, _, ⟨rfl, rfl, rfl, k, t, n, rfl⟩, sc.1, (QQ.to (k1.trans k2)).trans sc.2, fun _ h => .inl h, trivial⟩
    · rintro W' σ' cs' ⟨_, rfl, rfl, k, t, n, rfl⟩
      refine Ex.thenLast (Tr.boolE Ev.const_bool rfl) ?_
      refine Ex.forNil (enc := fun _ => .none) (EvJ.cell (a := a) hA'.hh (Ev.name (by kernel_rfl)) (.head _) (Nat.zero_le _)) (Ex.nil ⟨rfl, a, k, t, n, .inr rfl, ha, .tail _ (.head _), .tail _ (.tail _ (.head _)), .head _⟩) fun _ => rfl
  · obtain ⟨rfl, a, k, t, n, ha, nX, m1, m2, m3⟩ := hq
    have rv' : v = .none := rv
    subst rv'
    refine ⟨rfl, a, k, t, n, ?_, q3, (i3.ce _ m2).2.2.1, (i3.ce _ m1).2.2.1, (i3.ce _ m3).2.2.step (fun _ _ _ e => e) (fun b _ n _ z => n (.inl z)) fun _ e => e⟩
    rcases hw a ha with e | e
    · rcases List.mem_cons.mp e with rfl | e
      · exact absurd hDX.1 nX
      · rw [List.mem_singleton.mp e] at nX; exact absurd hxX.1 nX
    · exact e
end
end Mine
set_option maxRecDepth 100000
set_option maxHeartbeats 2000000
namespace Mine
open PySem PySem.W PyProof.Rows PySem.Calls

section
variable {prog : Program} {w : World} {A : Around} {G : Gn} {X W : Addr → Prop} {env : Env} {σ σ' : List (Str × VD)} {cs cs' : List (Addr × Cell)} {s : Shared}
theorem keeps_cls {M : Model} {h : Heap} {C : Addr} (Y : Makes M h C) : Looks M h (keeperOf (.ref C)) .machine := by
  obtain ⟨oc, od, cd, sl, hC, _⟩ := Y.obj
  exact (Looks.ld (part := none) hC).andThen (Y.call.andThen .now)
/-- Headers() called -/
theorem call_headers {fI : Addr} {pos : Pos} (hG : GOk G) (hB : Bis G) (hN : HdNew prog w G fI) (hA : Aok A 3) (i : Ok G X s) :
    wpAny (model prog w) A (callWith pos (.ref G.C) [] (backTo pos (starEach [] env)) []) (fun v s' => ∃ a, s.heap.get? a = none ∧ QQ G s s' ∧ HdrAt G (fun b => X b ∨ b = a) s'.heap v a ∧ (Cell.lst []).At (fun b => X b ∨ b = a) s'.heap a) FF s := by
  obtain ⟨Y, L1, L2⟩ := hN.makes s.heap i.gd
  refine callWith_of (P := fun h => Makes (model prog w) h G.C) rfl (fun h Y => ⟨.machine, .inr (.inl rfl), keeps_cls Y⟩) (evalArgs_nil3 ⟨Y, ?_⟩)
  obtain ⟨hh, g, d, t, os⟩ := s
  refine wpAny_call (make_core Y L1 L2 (.inl rfl) ?_)
  have hA2 : Aok (A.under (.builtin "type.__call__" ⟨.ref G.C :: ([] ++ []), []⟩)) 2 := by
    have hw : (Code.builtin "type.__call__" ⟨.ref G.C :: ([] ++ []), []⟩).weight ≤ 1 := by first | exact Nat.le_refl _ | exact Nat.zero_le _
    have hu : (Code.builtin "type.__call__" ⟨.ref G.C :: ([] ++ []), []⟩).cUnits ≤ 4 := by first | exact Nat.le_refl 4 | exact (by decide : 1 ≤ 4) | exact (by decide : 2 ≤ 4) | exact (by decide : 3 ≤ 4)
    refine ⟨hA.hh, ?_, ?_⟩
    · have := hA.dp; show A.depth + _ + 2 < _; lia
    · have := hA.un; show A.units + _ + 16 * 2 + 200 < _; lia
  generalize hs1 : (⟨(hh.push emptyDict).push (instObj G.C hh.objs.size), g, d, t, os⟩ : Shared) = s1
  have up : ∀ b o, hh.get? b = some o → ((hh.push emptyDict).push (instObj G.C hh.objs.size)).get? b = some o := fun b o e => Heap.get?_push_of_some _ (Heap.get?_push_of_some _ e)
  have k1 : QQ G ⟨hh, g, d, t, os⟩ s1 := by rw [← hs1]; exact QS.up up
  have fD : hh.get? hh.objs.size = none := Heap.get?_none_of_le (Nat.le_refl _)
  have fx : hh.get? (hh.objs.size + 1) = none := Heap.get?_none_of_le (Nat.le_succ _)
  have gx : s1.heap.get? (hh.objs.size + 1) = some (instObj G.C hh.objs.size) := by rw [← hs1]; heap_get
  have gD : s1.heap.get? hh.objs.size = some emptyDict := by rw [← hs1]; heap_get
  have i1 := i.quiet k1
  have fresh : ∀ b, hh.get? b = none → G.B.get? b = none ∧ ¬ G.jk b := fun b hb => by
    refine ⟨?_, fun j => ?_⟩
    · cases e : G.B.get? b with
      | none => rfl
      | some o => rw [i.gd.fr.keep b o e] at hb; cases hb
    · obtain ⟨o, e⟩ := i.hx b (i.jk b j); rw [show hh.get? b = some o from e] at hb; cases hb
  have i2 : Ok G (fun b => X b ∨ b = hh.objs.size ∨ b = hh.objs.size + 1) s1 := ⟨i1.gd, fun a j => .inl (i1.jk a j), fun a ha => by
    rcases ha with ha | rfl | rfl
    · exact i1.hx a ha
    · exact ⟨_, gD⟩
    · exact ⟨_, gx⟩⟩
  refine init_law hG hB hN hA2 i2 gx gD ⟨.inr (.inr rfl), fresh _ fx⟩ ⟨.inr (.inl rfl), fresh _ fD⟩ (Nat.ne_of_lt (Nat.lt_succ_self _)) fun a k t' n s' ha q hx hD hc => ?_
  have fa : hh.get? a = none := fresh_back k1 ha
  have ne : a ≠ hh.objs.size ∧ a ≠ hh.objs.size + 1 := ⟨fun e => (by rw [e, gD] at ha; cases ha), fun e => (by rw [e, gx] at ha; cases ha)⟩
  have nX : ∀ b, hh.get? b = none → ¬ X b := fun b hb x => by obtain ⟨o, e⟩ := i.hx b x; rw [show hh.get? b = some o from e] at hb; cases hb
  refine ⟨rfl, a, fa, (QQ.to k1).chain (W' := fun b => b ∈ [hh.objs.size, hh.objs.size + 1]) (fun b hb => .inr ?_) q, ⟨hh.objs.size + 1, hh.objs.size, k, t', n, rfl, fun z => ?_, fun z => ?_, ⟨hx, rfl, rfl, hD⟩⟩, ?_⟩
  · rcases List.mem_cons.mp hb with rfl | hb
    · exact fD
    · rw [List.mem_singleton.mp hb]; exact fx
  · exact z.elim (nX _ fx) fun e => ne.2 e.symm
  · exact z.elim (nX _ fD) fun e => ne.1 e.symm
  · obtain ⟨vs, m, e, p⟩ := hc
    refine ⟨vs, m, e, ?_⟩
    generalize vs.toList = l at p
    cases p
    exact .nil
/-- x = Headers() -/
theorem Ex.newHeaders {U : Un} {x : Str} {px p q pos : Pos} {fI : Addr} {rest : List Stmt} {Q : Post} (hG : GOk G) (hB : Bis G) (hN : HdNew prog w G fI) (hA : Aok A 3) (hx : env.kindOf "Headers" = some .globalImplicit) (hk : env.kindOf x = some .local ∨ (env.kindOf x = some .cell ∧ (env.cells.lookup x).isSome = true))
    (hsw : swapsWith (.Call (.Name "Headers" p) [] [] q) (some (.Name x px)) pos.line env = pure false)
    (h2 : ∀ a, ¬ X a → ExU U prog w A G X (Wn W a) env ((x, .hdr a) :: σ) ((a, .lst []) :: cs) rest Q) : ExU U prog w A G X W env σ cs (.Assign [.Name x px] (.Call (.Name "Headers" p) [] [] q) pos :: rest) Q := by
  have key : ∀ s, In G X W env σ cs s → wpAny (model prog w) A (exec (.Assign [.Name x px] (.Call (.Name "Headers" p) [] [] q) pos) env) (fun f s' => f = .next ∧ ∃ a, s.heap.get? a = none ∧ In G X (Wn W a) env ((x, .hdr a) :: σ) ((a, .lst []) :: cs) s' ∧ QS G (Wn W a) s s') FF s := fun s i => by
    refine wpAny_Assign_Name (hs := hsw) (Call_Name rfl (wff ((Ev.global (pos := p) hG hN.cls hx).run s i) fun v s₁ ⟨k1, r1⟩ => ?_))
    have r1' : v = .ref G.C := r1
    subst r1'
    have i1 := i.quiet k1
    refine wff (call_headers hG hB hN hA i1.ok) fun v s₂ ⟨a, ha, k2, r2, c2⟩ => ?_
    have u : ∀ b, Or2 X (Wn W a) b → (Or2 X W b ∨ b = a) := fun b h => or_new h
    have i2 := i1.newCell (c := .lst []) k2 ha (by obtain ⟨vs, n, e, p⟩ := c2; exact ⟨vs, n, e, p.step (fun _ _ _ e => e) fun b _ nb _ z => nb (u b z)⟩)
    exact wpAny_mono (i2.store (d := .hdr a) (VD.At.weak (x := .hdr a) r2 u) hk) (fun _ s₃ ⟨i3, k3⟩ => ⟨rfl, a, fresh_back k1 ha, i3, (QQ.to (k1.trans k2)).trans k3⟩) fun _ _ e => e
  refine ⟨fun s i => ?_⟩
  refine wpK_execs_cons (kff (wpAny.k (key s i)) fun f s₂ ⟨e, a, hf, i3, k3⟩ => ?_)
  subst e
  exact kff ((h2 a (fun z => i.noNew hf z)).run s₂ i3) fun f s₃ o => o.chain (k3.weak fun b h => h.elim .inl fun q => .inr (q ▸ hf)) fun b h => h.elim .inl fun q => .inr (q ▸ hf)
end
end Mine
set_option maxRecDepth 100000
set_option maxHeartbeats 2000000
namespace Mine
open PySem PySem.W PyProof.Rows PySem.Calls

section
variable {prog : Program} {w : World} {A : Around} {G : Gn} {X W : Addr → Prop} {env : Env} {σ σ' : List (Str × VD)} {cs cs' : List (Addr × Cell)} {s s' : Shared}
/-- _comparable_version called -/
theorem EvM.compv {a d re : Addr} {p pos : Pos} {e : Expr} {x : Str} {parts : List Str} (hV : VerEnv prog w G d re) (hcv : G.mg "_comparable_version" = some (.ref a)) (h : ∃ fd, IsFn G a (theDef 11) fd) (hx : VerStr x parts) (hA : Aok A 4) {fs : List (Addr × Obj)} (hF : ∀ o, FrOut ((env.locals, o) :: fs) A) (hsl : (frs fs).Sublist cs) (hfw : ∀ p, p ∈ frs fs → W p.1) (hk : env.kindOf "_comparable_version" = some .globalImplicit)
    (he : Ev prog w A G X W env σ cs e (S x)) (hs : starEach [e] env = (false, eval e env) :: starEach [] env) : EvM Un.und prog w A G X W env σ cs (.Call (.Name "_comparable_version" p) [e] [] pos) cs (.dat (.list (compL parts))) := by
  obtain ⟨fd, h⟩ := h
  refine ⟨fun s i => wpK_Call_Name (kff (wpAny.k ((Ev.global (pos := p) hV.gok hcv hk).run s i)) fun f s₁ ⟨k1, r1⟩ => ?_)⟩
  have r1' : f = .ref a := r1
  subst r1'
  have i1 := i.quiet k1
  obtain ⟨ob, eo, ed⟩ := h.obj
  refine callWithK_function (o := ob) (fd := fd) (by rw [hs]; rfl) (kff (wpAny.k ((EvA.plain (EvL.cons he EvL.nil hs) hs).run _ pos s₁ i1)) fun y s₂ ⟨k2, hkw, r2⟩ => ⟨⟨(i1.quiet k2).gd.fr.keep _ _ eo, ed⟩, ?_⟩)
  have i2 := i1.quiet k2
  obtain ⟨m, o, es, ep, e1, d1, _⟩ := i2.fr.ns
  rw [hkw, List.nil_append]
  have wl : W env.locals := i.fx _ (.inl rfl)
  have hmem : ∀ c, c ∈ frs ((env.locals, o) :: fs) → FrL W env cs c.1 ∧ W c.1 ∧ c.2.At (Or2 X W) s₂.heap c.1 := fun c hc => by
    rcases List.mem_cons.mp hc with rfl | hc
    · exact ⟨.inl rfl, wl, ⟨o.slots, e1⟩, es, ep, d1⟩
    · have h1 := hsl.subset hc
      have h2 := hfw c hc
      obtain ⟨p, _, rfl⟩ := List.mem_map.mp hc
      exact ⟨.inr ⟨_, h1, h2⟩, h2, (i2.ce _ h1).2.2⟩
  have hkey : ∀ b, b ∈ ((env.locals, o) :: fs).map (·.1) → ∃ ob, (b, Cell.frm ob) ∈ frs ((env.locals, o) :: fs) := fun b hb => by
    obtain ⟨p, hp, rfl⟩ := List.mem_map.mp hb
    exact ⟨_, frs_mem hp⟩
  refine kff (compv_law (fs := (env.locals, o) :: fs) hV h hx A (Or2 X W) s₂ y.pos ⟨hA, hF o⟩ i2.ok (fun b hb => ?_) (fun c hc => ?_) ?_ r2) fun v s₃ ⟨q3, c3, r3⟩ => ?_
  · obtain ⟨ob, hb'⟩ := hkey b hb
    exact ⟨.inr (hmem _ hb').2.1, i.wb _ (hmem _ hb').2.1⟩
  · exact ⟨.inr (hmem c hc).2.1, (i.wb _ (hmem c hc).2.1).2, (hmem c hc).2.2⟩
  · show (env.locals :: (frs fs).map (·.1)).Nodup
    rw [List.nodup_cons]
    refine ⟨fun h => ?_, (hsl.map _).nodup i2.ap⟩
    obtain ⟨c, hc, e⟩ := List.mem_map.mp h
    exact (i2.ce _ (hsl.subset hc)).2.1 (.inl e)
  · have rdy := i2.slotsQ (fun L hL => let ⟨_, h⟩ := hkey L hL; (hmem _ h).1) q3 (fun b ob hb e => ?_)
    · exact ⟨rdy.1, (QQ.to (k1.trans k2)).trans rdy.2, r3⟩
    · obtain ⟨o', hb'⟩ := hkey b hb
      obtain ⟨⟨sl0, e0⟩, _⟩ := (hmem _ hb').2.2
      obtain ⟨⟨sl1, e1⟩, _⟩ := c3 _ hb'
      rw [show s₂.heap.get? b = _ from e0] at e
      cases e
      exact ⟨sl1, e1⟩
end
end Mine
set_option maxRecDepth 100000
set_option maxHeartbeats 2000000
namespace Mine
open PySem PySem.W PyProof.Rows PySem.Calls

/-! the past and the present, step by step -/
noncomputable def kindOf (n : Nat) : Nat := n % 10 % 3
noncomputable def toldOf (n : Nat) : Nat := n / 10 % 100
noncomputable def markOf (n : Nat) : Nat := n / 100000 % 4
noncomputable def codeOf (n : Nat) : Int := if kindOf n = 0 then ((n / 1000 % 100 % 13 : Nat) : Int) else -1
noncomputable def signS (m : Nat) : Str := Txt.item ".-_+" (m : Int)
noncomputable def wordS (w : Nat) : Str := if (Builtin.Str.strSliceIndices (some ((2 : Nat) : Int)) none 1 (keyStr w).length).length == (keyStr w).length then keyStr w else dropS (keyStr w) 2
noncomputable def timeS (w m p : Nat) : Str := "1" ++ signS m ++ wordS w ++ signS m ++ Txt.mul "0" ((m % 2 : Nat) : Int) ++ Str.ofString (toString (p : Int))
noncomputable def keyR (c : Int) : List PyData := if c < 0 then [] else rankD c.toNat
noncomputable def timeR (w p : Nat) : List PyData := rankD w ++ [.int 100, .int (p : Int)]
structure KS where
  deeds : List Dd
  log : List Row
  pairs : List Row
  times : List Str
  kvs : List (Str × PyData)
  kn : Nat
noncomputable def logRow (ts : List Str) (d : Dd) : Row := ((ts[d.2.1]?).getD "", keyStr d.2.2)
noncomputable def nowRow (ts : List Str) (h : Hh) : Row := (keyStr h.1, (ts[h.2.2]?).getD "")
noncomputable def goneP (pairs now : List Row) : List Row := pairs.filter fun p => !decide (p ∈ now)
noncomputable def newPairs (pairs now : List Row) : List Row :=
  (pairs.filter fun p => !decide (p.1 ∈ (goneP pairs now).map (·.1))) ++ (pairs.filter fun p => decide (p.1 ∈ (goneP pairs now).map (·.1)) && !decide (p ∈ goneP pairs now)) ++ now.filter fun p => !decide (p ∈ pairs)
noncomputable def whichOf (st : KS) (n : Nat) : Nat := toldOf n % max st.deeds.length 1
noncomputable def laterOf (st : KS) (n p : Nat) : List Dd := if kindOf n = 2 then st.deeds.take (whichOf st n) ++ st.deeds.drop (whichOf st n + 1) else st.deeds ++ [(toldOf n % 13, p, codeOf n)]
noncomputable def timesOf (st : KS) (n p : Nat) : List Str := st.times ++ [timeS (toldOf n % 13) (markOf n) p]
noncomputable def kvsOf (st : KS) (n p : Nat) : List (Str × PyData) := if kindOf n = 2 then st.kvs else (keyStr (codeOf n), .list (keyR (codeOf n))) :: (timeS (toldOf n % 13) (markOf n) p, .list (timeR (toldOf n % 13) p)) :: st.kvs
noncomputable def deedOf (st : KS) (n p : Nat) : Row := if kindOf n = 2 then (st.log[whichOf st n]?).getD ("", "") else (timeS (toldOf n % 13) (markOf n) p, keyStr (codeOf n))
noncomputable def goes? (st : KS) (n p : Nat) : Option (List Hh) := match leftOf (laterOf st n p) with
  | none => none
  | some due => if (laterOf st n p).length = st.deeds.length then none else some due
noncomputable def stepK (st : KS) (n p : Nat) : KS := match goes? st n p with
  | none => { st with times := timesOf st n p }
  | some due => ⟨laterOf st n p, changeL st.log (kindOf n) (deedOf st n p), newPairs st.pairs (due.map (nowRow (timesOf st n p))), timesOf st n p, kvsOf st n p, if kindOf n = 2 then st.kn else st.kn + 2⟩
/-- what the walk asks of a step -/
structure StepOk (H : Hx) (st : KS) (n p : Nat) : Prop where
  small : p < 64
  tl : st.times.length = p
  dl : st.deeds.length < 60
  pl : st.pairs.length < 60
  ll : st.log.length = st.deeds.length
  later : DdOk (laterOf st n p)
  kn : st.kn ≤ 200
  sok : ∀ x, x ∈ st.times ∨ x = timeS (toldOf n % 13) (markOf n) p → PyData.strOk x = true
  pok : ∀ r, r ∈ st.pairs → PyData.strOk r.1 = true ∧ PyData.strOk r.2 = true
  ts : kindOf n ≠ 2 → ∃ ps, VerStr (timeS (toldOf n % 13) (markOf n) p) ps ∧ compL ps = timeR (toldOf n % 13) p
  ks : kindOf n ≠ 2 → ∃ ps, VerStr (keyStr (codeOf n)) ps ∧ compL ps = keyR (codeOf n)
  ne : kindOf n ≠ 2 → keyStr (codeOf n) ≠ timeS (toldOf n % 13) (markOf n) p
  due : ∀ due, goes? st n p = some due → (∃ keyT keyK rkT rkK, ChOk H (kvsOf st n p) keyT keyK rkT rkK st.log st.pairs (kindOf n) (deedOf st n p) ∧ changeQ rkT rkK st.log st.pairs (kindOf n) (deedOf st n p) = newPairs st.pairs (due.map (nowRow (timesOf st n p)))) ∧
    changeL st.log (kindOf n) (deedOf st n p) = (laterOf st n p).map (logRow (timesOf st n p)) ∧ (∀ d, d ∈ laterOf st n p → d.2.1 < p + 1) ∧ (∀ h, h ∈ due → h.2.2 < p + 1 ∧ h.1 < 13) ∧ due.length < 60 ∧ (kindOf n = 2 → whichOf st n < st.log.length)
noncomputable def ks0 : KS := ⟨[], [], [], [], [], 0⟩
noncomputable def stAt (ns : List Nat) : Nat → KS
  | 0 => ks0
  | j + 1 => stepK (stAt ns j) ((ns[j]?).getD 0) j
end Mine
set_option maxRecDepth 100000
set_option maxHeartbeats 2000000
namespace Mine
open PySem PySem.W PyProof.Rows PySem.Calls

theorem fmodN (n k : Nat) : ((n : Int)).fmod (k : Int) = ((n % k : Nat) : Int) := by
  rw [Int.fmod_eq_emod_of_nonneg _ (Int.natCast_nonneg k)]; exact (Int.natCast_emod n k).symm
theorem fdivN (n k : Nat) : ((n : Int)).fdiv (k : Int) = ((n / k : Nat) : Int) := by
  rw [Int.fdiv_eq_ediv_of_nonneg _ (Int.natCast_nonneg k)]; exact (Int.natCast_ediv n k).symm
theorem pylongN {n k : Nat} (hk : k < 2 ^ 30) : Builtin.divisionGoesByPylong (n : Int) (k : Int) = false := by
  unfold Builtin.divisionGoesByPylong
  have : ¬ ((if ((k : Int) == 0) = true then 0 else (k : Int).natAbs.log2 / 30 + 1) > 300) := by
    split
    · decide
    · rename_i h
      have h0 : k ≠ 0 := fun e => h (by rw [e]; rfl)
      have : (k : Int).natAbs.log2 < 30 := by rw [Int.natAbs_natCast]; exact (Nat.log2_lt h0).mpr hk
      omega
  simp only [this, decide_false, Bool.false_and]
theorem pick_take {ds : List PyData} {k : Nat} : pick ds none (some (k : Int)) = ds.take k := by
  unfold pick
  simp only [Option.elim_none, Option.elim_some, List.drop_zero, Nat.sub_zero]
  have : clipAt ds.length (k : Int) = min k ds.length := by
    unfold clipAt
    first | rfl | (split <;> omega) | (simp; omega)
  rw [this]
  by_cases h : k ≤ ds.length
  · rw [Nat.min_eq_left h]
  · rw [Nat.min_eq_right (by omega), List.take_of_length_le (Nat.le_refl _), List.take_of_length_le (by omega)]
theorem pick_drop {ds : List PyData} {k : Nat} : pick ds (some (k : Int)) none = ds.drop k := by
  unfold pick
  simp only [Option.elim_none, Option.elim_some]
  have : clipAt ds.length (k : Int) = min k ds.length := by
    unfold clipAt
    first | rfl | (split <;> omega) | (simp; omega)
  rw [this]
  by_cases h : k ≤ ds.length
  · rw [Nat.min_eq_left h, List.take_of_length_le (by rw [List.length_drop]; exact Nat.le_refl _)]
  · rw [Nat.min_eq_right (by omega), List.drop_of_length_le (Nat.le_refl _), List.drop_of_length_le (by omega : ds.length ≤ k), List.take_nil]

structure KpEnv (prog : Program) (w : World) (G : Gn) (H : Hx) (L : Lx) (d re fI : Addr) : Prop extends ChEnv prog w G H L where
  ver : VerEnv prog w G d re
  new : HdNew prog w G fI
  keyF : ∃ fd, IsFn G L.key (theDef 13) fd
  keyG : G.mg "_law_key" = some (.ref L.key)
  ranksF : ∃ fd, IsFn G L.ranks (theDef 14) fd
  ranksG : G.mg "_law_ranks" = some (.ref L.ranks)
  leftF : ∃ fd, IsFn G L.left (theDef 15) fd
  leftG : G.mg "_law_left" = some (.ref L.left)
  compF : ∃ fd, IsFn G L.comp (theDef 11) fd
  compG : G.mg "_comparable_version" = some (.ref L.comp)
  changeF : ∃ fd, IsFn G L.change (theDef 19) fd ∧ HasTb G fd (lamPosA (defBody (theDef 19))) L.tChange
  changeG : G.mg "_law_change" = some (.ref L.change)
end Mine
set_option maxRecDepth 100000
set_option maxHeartbeats 2000000
namespace Mine
open PySem PySem.W PyProof.Rows PySem.Calls

section
variable {prog : Program} {w : World} {A : Around} {G : Gn} {H : Hx} {X W : Addr → Prop} {env : Env} {σ : List (Str × VD)} {cs cs' ccs ccs' : List (Addr × Cell)} {s : Shared} {E : Value → Shared → Prop}
theorem Ex.nd {U : Un} {sts : List Stmt} {Q : Post} (h : (cs.map (·.1)).Nodup → ExU U prog w A G X W env σ cs sts Q) : ExU U prog w A G X W env σ cs sts Q := ⟨fun s i => (h i.ap).run s i⟩
noncomputable def kcs (prog : Program) (w : World) (lg hd ar tm : Addr) (fs : List (Addr × Obj)) (st : KS) : List (Addr × Cell) := (tm, .lst (st.times.map .str)) :: (ar, .tab prog w st.kn st.kvs) :: (hd, .lst (st.pairs.map encR)) :: (lg, .lst (st.log.map encR)) :: frs fs
noncomputable def ksg (ns : List Nat) (lg hd ar tm : Addr) (st : KS) : List (Str × VD) := [("times", .is (.ref tm)), ("pairs", .dat (.list (st.pairs.map encR))), ("deeds", .dat (.list (st.deeds.map encD))), ("ranks", .is (.ref ar)), ("queue", .hdr hd), ("log", .hdr lg), ("draws", .dat (.list (ns.map fun n : Nat => PyData.int (n : Int))))]
theorem lenA {x y : Str} : (x ++ y).length = x.length + y.length := by show (x.cps ++ y.cps).size = _; rw [Array.size_append]; rfl
theorem sign_ok : ∀ m : Nat, m < 4 → fitsSsize (m : Int) = true ∧ (Txt.charAt ".-_+" (m : Int)).isSome = true ∧ PyData.strOk (Txt.item ".-_+" (m : Int)) = true ∧ (Txt.item ".-_+" (m : Int)).length ≤ 10 := by decide +kernel
theorem word_ok : ∀ m : Nat, m < 13 → PyData.strOk (wordS m) = true ∧ (wordS m).length ≤ 10 := by decide +kernel
theorem zero_ok : ∀ m : Nat, m < 2 → PyData.strOk (Txt.mul "0" ((m : Nat) : Int)) = true ∧ (Txt.mul "0" ((m : Nat) : Int)).length ≤ 10 := by decide +kernel
theorem num_ok : ∀ m : Nat, m < 64 → PyData.strOk (Str.ofString (toString (m : Int))) = true ∧ (Str.ofString (toString (m : Int))).length ≤ 10 := by decide +kernel
theorem mul_ok : ∀ m : Nat, m < 2 → MulOk "0" (m : Int) := by unfold MulOk; decide +kernel
theorem log_ok : ∀ m : Nat, m < 64 → (m : Int).natAbs.log2 < 1920 := by decide +kernel
theorem timeR_ok : ∀ a : Nat, a < 13 → ∀ p : Nat, p < 64 → (PyData.list (timeR a p)).depth ≤ 5 ∧ PyData.eqv (.list (timeR a p)) (.list (timeR a p)) = true := by decide +kernel
theorem rankD_ok : ∀ a : Nat, a < 13 → (PyData.list (rankD a)).depth ≤ 5 ∧ PyData.eqv (.list (rankD a)) (.list (rankD a)) = true := by decide +kernel
theorem keyR_ok {n : Nat} : (PyData.list (keyR (codeOf n))).depth ≤ 5 ∧ PyData.eqv (.list (keyR (codeOf n))) (.list (keyR (codeOf n))) = true := by
  unfold keyR codeOf
  by_cases h : kindOf n = 0
  · rw [if_pos h, if_neg (by lia), Int.toNat_natCast]
    exact rankD_ok _ (Nat.mod_lt _ (by decide))
  · rw [if_neg h, if_pos (by decide)]
    exact ⟨by decide +kernel, by decide +kernel⟩
theorem EvM.conv {U : Un} {e : Expr} {x y : VD} (h : EvM U prog w A G X W env σ cs e cs' x) (q : x = y) : EvM U prog w A G X W env σ cs e cs' y := q ▸ h
theorem eqv_encR (a b : Row) : PyData.eqv (encR a) (encR b) = decide (a = b) := by
  have e : PyData.eqv (encR a) (encR b) = (PyData.eqv (.str a.1) (.str b.1) && PyData.eqv (.str a.2) (.str b.2)) := by
    show (_ && (_ && true)) = _
    rw [Bool.and_true]
  rw [e, eqv_str, eqv_str, ← Bool.decide_and]
  exact decide_eq_decide.mpr ⟨fun h => Prod.ext h.1 h.2, fun h => by rw [h]; exact ⟨rfl, rfl⟩⟩
theorem any_encR (l : List Row) (r : Row) : ((l.map encR).any fun y => PyData.eqv y (encR r)) = decide (r ∈ l) := by
  rw [Bool.eq_iff_iff, List.any_eq_true, decide_eq_true_iff]
  constructor
  · rintro ⟨x, hx, e⟩
    obtain ⟨y, hy, rfl⟩ := List.mem_map.mp hx
    rw [eqv_encR, decide_eq_true_iff] at e
    exact e ▸ hy
  · exact fun h => ⟨_, List.mem_map_of_mem h, by rw [eqv_encR, decide_eq_true_iff]⟩
theorem any_str (l : List Str) (x : Str) : ((l.map PyData.str).any fun y => PyData.eqv y (.str x)) = decide (x ∈ l) := by
  rw [Bool.eq_iff_iff, List.any_eq_true, decide_eq_true_iff]
  constructor
  · rintro ⟨z, hx, e⟩
    obtain ⟨y, hy, rfl⟩ := List.mem_map.mp hx
    rw [eqv_str, decide_eq_true_iff] at e
    exact e ▸ hy
  · exact fun h => ⟨_, List.mem_map_of_mem h, by rw [eqv_str, decide_eq_true_iff]⟩
theorem eqv_rows (l : List Row) : PyData.eqv (.list (l.map encR)) (.list (l.map encR)) = true := by
  show PyData.eqvAll _ _ = true
  induction l with
  | nil => rfl
  | cons a l ih =>
    show (PyData.eqv (encR a) (encR a) && PyData.eqvAll _ _) = true
    rw [eqv_encR, ih, decide_eq_true rfl]; rfl
theorem depth_rows (l : List Row) : (PyData.list (l.map encR)).depth ≤ 2 := by
  show PyData.depthAll _ + 1 ≤ 2
  have : PyData.depthAll (l.map encR) ≤ 1 := by
    induction l with
    | nil => exact Nat.zero_le _
    | cons a l ih =>
      show max (encR a).depth (PyData.depthAll _) ≤ 1
      exact Nat.max_le.mpr ⟨Nat.le_refl 1, ih⟩
  lia
theorem str_at {ts : List Str} {k : Nat} (h : k < ts.length) : (ts.map PyData.str)[((k : Int)).toNat]? = some (.str ((ts[k]?).getD "")) := by
  rw [Int.toNat_natCast, List.getElem?_map, List.getElem?_eq_getElem h]; rfl
theorem fsub (a b c d : Addr × Cell) {fs : List (Addr × Obj)} : (frs fs).Sublist (a :: b :: c :: d :: frs fs) := .cons _ (.cons _ (.cons _ (.cons _ (List.Sublist.refl _))))
theorem Ex.ite1 {U : Un} {t : Expr} {b o : Stmt} {rest : List Stmt} {pos : Pos} {c : Bool} {σ' : List (Str × VD)} {Q : Post} (ht : Tr prog w A G X W env σ cs t c) (h1 : c = true → St1 prog w A G X W env σ cs b σ' cs') (h2 : c = false → St1 prog w A G X W env σ cs o σ' cs') (hr : ExU U prog w A G X W env σ' cs' rest Q) :
    ExU U prog w A G X W env σ cs (.If t [b] [o] pos :: rest) Q :=
  Ex.ite (Q1 := At W σ' cs') ht (fun e => Ex.step (h1 e) Ex.end) (fun e => Ex.step (h2 e) Ex.end) (fun _ _ _ ⟨_, e1, e2, e3⟩ => by subst e1; subst e2; subst e3; exact hr) fun _ _ _ _ ne q => absurd q.1 ne
theorem kept_law {L : Lx} {d re fI a : Addr} {fd : FuncData} {fs : List (Addr × Obj)} (hL : KpEnv prog w G H L d re fI) (h : IsFn G a (theDef 20) fd) {ns : List Nat} (hns : ns.length ≤ 20) (hsm : ∀ n, n ∈ ns → n < 2 ^ 29) (hok : ∀ j n, ns[j]? = some n → StepOk H (stAt ns j) n j) :
    FnU Un.und (fun A => Aok A 16 ∧ FrOut fs A) prog w G (.ref a) (fs.map (·.1)) (frs fs) (frs fs) [] [.dat (.list (ns.map fun n : Nat => PyData.int (n : Int)))] (.dat (.bool true)) := by
  obtain ⟨kfd, kh⟩ := hL.keyF
  obtain ⟨rfd, rh⟩ := hL.ranksF
  obtain ⟨lfd, lh⟩ := hL.leftF
  obtain ⟨ifd, ih⟩ := hL.hE.itemsF
  obtain ⟨cfd, ch, ct'⟩ := hL.changeF
  have hG := hL.hE.glm.toGOk
  have hB := hL.hE.bis
  obtain ⟨nm, qn, kd, doc, pm, cv, ct, rfl⟩ := h.is
  refine FnU.of_def (σ := [("draws", .dat (.list (ns.map fun n : Nat => PyData.int (n : Int))))]) hG (h.def rfl rfl rfl) (show ([("draws" : Str)]).Nodup by decide) (fun k x hx => ?_) (bind1 fun v => rfl) (fun A hA => by have := hA.1.dp; lia) fun A L' X ⟨hA0, hF0⟩ => ?_
  · simp only [List.map_cons, List.map_nil, List.mem_singleton] at hx
    subst hx
    exact .inl rfl
  have hA := (hA0.le (by decide : 15 + 1 ≤ 16)).deeper (callEnvC (fnOf (theDef 20) nm qn kd doc pm cv ct) L' a)
  have hF : ∀ o, FrOut ((L', o) :: fs) (A.deeper (callEnvC (fnOf (theDef 20) nm qn kd doc pm cv ct) L' a)) := fun o => by
    obtain ⟨outer, e1, e2⟩ := hF0
    refine ⟨callEnvC (fnOf (theDef 20) nm qn kd doc pm cv ct) L' a :: outer, by show A.frames.map _ = _; rw [e1]; rfl, fun e he => ?_⟩
    rcases List.mem_cons.mp he with rfl | he
    · exact ⟨by show (defScope (theDef 20)).kind ≠ _; decide, _, .head _, rfl⟩
    · obtain ⟨hk, p, e3, e4⟩ := e2 e he
      exact ⟨hk, p, .tail _ e3, e4⟩
  generalize A.deeper (callEnvC (fnOf (theDef 20) nm qn kd doc pm cv ct) L' a) = Ad at hA hF
  have hun := hA.un
  refine Ex.newHeaders hG hB hL.new (hA.le (by decide)) rfl (.inl rfl) rfl fun lg hlg => ?_
  refine Ex.newHeaders hG hB hL.new (hA.le (by decide)) rfl (.inl rfl) rfl fun hd hhd => ?_
  refine Ex.newTab hG (.inl rfl) (fun ar har => ?_)
  refine Ex.step (St1.assign (d := .dat (.list [])) (EvD.list [] EvD.nil (by decide)) (.inl rfl)) ?_
  refine Ex.step (St1.assign (d := .dat (.list [])) (EvD.list [] EvD.nil (by decide)) (.inr ⟨rfl, rfl⟩)) ?_
  refine Ex.newList (ds := []) EvL.nil rfl (by decide +kernel) (.inr ⟨rfl, rfl⟩) fun tm htm => ?_
  refine Ex.nd fun hnd => ?_
  have w1 : Wn (Wn (Wn (Wn (callW (fnOf (theDef 20) nm qn kd doc pm cv ct) L' a (fs.map (·.1))) lg) hd) ar) tm tm := .inr rfl
  have w2 : Wn (Wn (Wn (Wn (callW (fnOf (theDef 20) nm qn kd doc pm cv ct) L' a (fs.map (·.1))) lg) hd) ar) tm ar := .inl (.inr rfl)
  have w3 : Wn (Wn (Wn (Wn (callW (fnOf (theDef 20) nm qn kd doc pm cv ct) L' a (fs.map (·.1))) lg) hd) ar) tm hd := .inl (.inl (.inr rfl))
  have w4 : Wn (Wn (Wn (Wn (callW (fnOf (theDef 20) nm qn kd doc pm cv ct) L' a (fs.map (·.1))) lg) hd) ar) tm lg := .inl (.inl (.inl (.inr rfl)))
  have w5 : ∀ p, p ∈ frs fs → Wn (Wn (Wn (Wn (callW (fnOf (theDef 20) nm qn kd doc pm cv ct) L' a (fs.map (·.1))) lg) hd) ar) tm p.1 := fun p hp => by
    obtain ⟨z, hz, rfl⟩ := List.mem_map.mp hp
    exact .inl (.inl (.inl (.inl (.inr (List.mem_map_of_mem hz)))))
  generalize Wn (Wn (Wn (Wn (callW (fnOf (theDef 20) nm qn kd doc pm cv ct) L' a (fs.map (·.1))) lg) hd) ar) tm = Wk at w1 w2 w3 w4 w5 ⊢
  have hle : ∀ j, (stAt ns j).times.length = (stAt ns j).times.length := fun _ => rfl
  refine Ex.forS (fun _ => True) trivial (xs := List.range ns.length) (enc := fun k => PyData.int (k : Int)) (bnd := fun k => [("place", I k)]) (inv := fun j => ksg ns lg hd ar tm (stAt ns j)) (cinv := fun j => kcs prog w lg hd ar tm fs (stAt ns j))
    (EvS.rangeN hA.hh (Ev.bi hG hB.range') (Ev.conv (Ev.len (ds := ns.map fun n : Nat => PyData.int (n : Int)) (Ev.bi hG hB.len') (Ev.name (by kernel_rfl)) (by rw [List.length_map]; lia) star_name) (by rw [List.length_map])) (by lia) star_call) (fun k _ => Tgt.name (.inl rfl)) (fun _ _ e => e) (List.Sublist.refl _) (fun _ => rfl) ?_ (fun _ => ?_) (fun _ => rfl)
  · intro j k hk _ X'
    obtain ⟨hj, e⟩ := List.getElem?_eq_some_iff.mp hk
    rw [List.length_range] at hj
    rw [List.getElem_range] at e
    subst e
    have hn : ns[j]? = some ns[j] := List.getElem?_eq_getElem hj
    have ok := hok j _ hn
    have hlt := hsm _ (List.mem_of_getElem? hn)
    have hst : stAt ns (j + 1) = stepK (stAt ns j) ns[j] j := by show stepK _ ((ns[j]?).getD 0) j = _; rw [hn]; rfl
    rw [hst]
    generalize stAt ns j = st at *
    generalize ns[j] = n at *
    have hitem : (ns.map fun n : Nat => PyData.int (n : Int))[((j : Int)).toNat]? = some (.int (n : Int)) := by
      rw [Int.toNat_natCast, List.getElem?_map, hn]; rfl
    have ht13 : toldOf n % 13 < 13 := Nat.mod_lt _ (by decide)
    have hm4 : markOf n < 4 := Nat.mod_lt _ (by decide)
    have hc13 : codeOf n < 13 := by unfold codeOf; split <;> lia
    have hp64 := ok.small
    have f10 := fmodN n 10
    refine Ex.step (St1.assign (d := I n) (Ev.sub (x := .dat (.list (ns.map fun n : Nat => PyData.int (n : Int)))) (y := I j) (Ev.name (by kernel_rfl)) (Ev.name (by kernel_rfl)) (itL (by lia) (by lia) hitem)) (.inl rfl)) ?_
    refine Ex.step (St1.assign (d := I (kindOf n)) (Ev.conv (Ev.bin (y := I 3) (Ev.bin (x := I n) (y := I 10) (Ev.name (by kernel_rfl)) Ev.const_int (modI (by decide))) Ev.const_int (modI (by decide))) (congrArg I ((congrArg (Int.fmod · 3) (fmodN n 10)).trans (fmodN (n % 10) 3)))) (.inl rfl)) ?_
    refine Ex.step (St1.assign (d := I (toldOf n)) (Ev.conv (Ev.bin (y := I 100) (Ev.bin (x := I n) (y := I 10) (Ev.name (by kernel_rfl)) Ev.const_int (divI (by decide) (pylongN (k := 10) (by decide)))) Ev.const_int (modI (by decide))) (congrArg I ((congrArg (Int.fmod · 100) (fdivN n 10)).trans (fmodN (n / 10) 100)))) (.inl rfl)) ?_
    refine Ex.step (St1.assign (d := I (markOf n)) (Ev.conv (Ev.bin (y := I 4) (Ev.bin (x := I n) (y := I 100000) (Ev.name (by kernel_rfl)) (Ev.conv (Ev.bin (x := I 10) (y := I 5) Ev.const_int Ev.const_int (powI (by decide) (by decide))) (by rfl)) (divI (by decide) (pylongN (k := 100000) (by decide)))) Ev.const_int (modI (by decide))) (congrArg I ((congrArg (Int.fmod · 4) (fdivN n 100000)).trans (fmodN (n / 100000) 4)))) (.inl rfl)) ?_
    refine Ex.step (St1.assign (d := I (codeOf n)) ?_ (.inl rfl)) ?_
    · refine Ev.conv (Ev.ifExp (c := decide (kindOf n = 0)) (x := I ((n / 1000 % 100 % 13 : Nat) : Int)) (y := I (-1)) (tr_kind (k := 0) (by kernel_rfl) (by decide) (by lia)) (fun _ => ?_) fun _ => Ev.unary Ev.const_int negI) ?_
      · exact Ev.conv (Ev.bin (y := I 13) (Ev.bin (y := I 100) (Ev.bin (x := I n) (y := I 1000) (Ev.name (by kernel_rfl)) Ev.const_int (divI (by decide) (pylongN (k := 1000) (by decide)))) Ev.const_int (modI (by decide))) Ev.const_int (modI (by decide)))
          (congrArg I ((congrArg (fun z => Int.fmod (Int.fmod z 100) 13) (fdivN n 1000)).trans ((congrArg (Int.fmod · 13) (fmodN (n / 1000) 100)).trans (fmodN (n / 1000 % 100) 13))))
      · unfold codeOf
        by_cases hk0 : kindOf n = 0
        · rw [if_pos hk0, if_pos (decide_eq_true hk0)]
        · rw [if_neg hk0, if_neg (by simp [hk0])]
    refine Ex.step (St1.assign (d := S (signS (markOf n))) (Ev.sub (x := S ".-_+") (y := I (markOf n)) Ev.const_str (Ev.name (by kernel_rfl)) (itS (sign_ok _ hm4).1 (sign_ok _ hm4).2.1 (sign_ok _ hm4).2.2.1)) (.inl rfl)) ?_
    have hS1 := sign_ok _ hm4
    have hW1 := word_ok _ ht13
    have hZ1 := zero_ok (markOf n % 2) (Nat.mod_lt _ (by decide))
    have hN1 := num_ok j hp64
    have hs1 : ("1" : Str).length = 1 := by decide
    have hz1 : ("0" : Str).length = 1 := by decide
    have hSl : (signS (markOf n)).length ≤ 10 := hS1.2.2.2
    refine Ex.step (St1.append (a := tm) (ds := st.times.map .str) (d := .str (timeS (toldOf n % 13) (markOf n) j)) (cs' := (tm, .lst ((timesOf st n j).map .str)) :: (kcs prog w lg hd ar tm fs st).tail) (by kernel_rfl) ?_ ?_ w1 ?_) ?_
    · unfold timeS
      refine Ev.bin (x := S ("1" ++ signS (markOf n) ++ wordS (toldOf n % 13) ++ signS (markOf n) ++ Txt.mul "0" ((markOf n % 2 : Nat) : Int))) (y := S (Str.ofString (toString (j : Int)))) ?_ ?_ (addS ?_)
      · refine Ev.bin (x := S ("1" ++ signS (markOf n) ++ wordS (toldOf n % 13) ++ signS (markOf n))) (y := S (Txt.mul "0" ((markOf n % 2 : Nat) : Int))) ?_ ?_ (addS ?_)
        · refine Ev.bin (x := S ("1" ++ signS (markOf n) ++ wordS (toldOf n % 13))) (y := S (signS (markOf n))) ?_ (Ev.name (by kernel_rfl)) (addS ?_)
          · refine Ev.bin (x := S ("1" ++ signS (markOf n))) (y := S (wordS (toldOf n % 13))) ?_ ?_ (addS ?_)
            · exact Ev.bin Ev.const_str (Ev.name (by kernel_rfl)) (addS (by rw [sizeLine_eq]; lia))
            · refine Ev.sliceS (n := 2) (x := keyStr ((toldOf n % 13 : Nat) : Int)) ?_ rfl hW1.1 (by rw [sizeLine_eq]; lia)
              exact Ev.call (n := 2) (ccs := []) (Ev.global hG hL.keyG rfl) kh.fo (EvA.plain (EvL.cons (Ev.conv (Ev.bin (x := I (toldOf n)) (y := I 13) (Ev.name (by kernel_rfl)) Ev.const_int (modI (by decide))) (congrArg I (fmodN (toldOf n) 13))) EvL.nil star_bin) star_bin) (key_law hG kh (by lia)) (hA.le (by decide)) CsOk.none
            · rw [sizeLine_eq, lenA]; lia
          · rw [sizeLine_eq, lenA, lenA]; lia
        · exact Ev.bin (x := S "0") (y := I ((markOf n % 2 : Nat) : Int)) Ev.const_str (Ev.conv (Ev.bin (x := I (markOf n)) (y := I 2) (Ev.name (by kernel_rfl)) Ev.const_int (modI (by decide))) (congrArg I (fmodN (markOf n) 2))) (mulS (mul_ok _ (Nat.mod_lt _ (by decide))) hZ1.1)
        · rw [sizeLine_eq, lenA, lenA, lenA]; lia
      · exact Ev.callT (Ev.bi hG hB.str') (EvL.cons (Ev.name (by kernel_rfl)) EvL.nil star_name) (strI (log_ok j hp64) hN1.1) star_name
      · rw [sizeLine_eq, lenA, lenA, lenA, lenA]; lia
    · rw [show (timesOf st n j).map PyData.str = st.times.map .str ++ [.str (timeS (toldOf n % 13) (markOf n) j)] from List.map_append]; exact .head
    · rw [List.length_map, ok.tl]; exact list_le (by lia)
    have hwi : whichOf st n < 1000 := by
      have := Nat.mod_le (toldOf n) (max st.deeds.length 1)
      have h2 : toldOf n < 100 := Nat.mod_lt _ (by decide)
      unfold whichOf; lia
    refine Ex.step (St1.assign (d := I (whichOf st n)) ?_ (.inl rfl)) ?_
    · refine Ev.conv (Ev.bin (x := I (toldOf n)) (y := I ((max st.deeds.length 1 : Nat) : Int)) (Ev.name (by kernel_rfl)) ?_ (modI (by lia))) (congrArg I (fmodN (toldOf n) (max st.deeds.length 1)))
      refine Ev.conv (Ev.callB (Ev.bi hG hB.max') (EvL.cons (Ev.conv (Ev.len (ds := st.deeds.map encD) (Ev.bi hG hB.len') (Ev.name (by kernel_rfl)) (by rw [List.length_map]; have := ok.dl; lia) star_name) (by rw [List.length_map])) (EvL.cons Ev.const_int EvL.nil star_const) star_call) (FnB.to (max2 (a := (st.deeds.length : Int)) (b := 1) hA.hh)) star_call) (congrArg I ?_)
      split <;> lia
    have hdl := ok.dl
    refine Ex.ite1 (c := decide (kindOf n = 2)) (tr_kind (k := 2) (by kernel_rfl) (by decide) (by lia)) (fun hk => St1.assign (d := .dat (.list ((laterOf st n j).map encD))) ?_ (.inl rfl)) (fun hk => St1.assign (d := .dat (.list ((laterOf st n j).map encD))) ?_ (.inl rfl)) ?_
    · have hk2 : kindOf n = 2 := of_decide_eq_true hk
      have e1 : (laterOf st n j).map encD = (st.deeds.map encD).take (whichOf st n) ++ (st.deeds.map encD).drop (whichOf st n + 1) := by
        unfold laterOf; rw [if_pos hk2, List.map_append, List.map_take, List.map_drop]
      rw [e1]
      refine Ev.bin (x := .dat (.list ((st.deeds.map encD).take (whichOf st n)))) (y := .dat (.list ((st.deeds.map encD).drop (whichOf st n + 1)))) ?_ ?_ (addL ?_)
      · exact Ev.conv (Ev.sliceL (ds := st.deeds.map encD) (lo := none) (hi := some ((whichOf st n : Nat) : Int)) (Ev.name (by kernel_rfl)) trivial (Ev.name (x := "which") (by kernel_rfl)) (by rw [List.length_map]; exact list_le (by lia))) (congrArg (fun z => VD.dat (.list z)) pick_take)
      · exact Ev.conv (Ev.sliceL (ds := st.deeds.map encD) (lo := some ((whichOf st n + 1 : Nat) : Int)) (hi := none) (Ev.name (by kernel_rfl)) (Ev.bin (x := I (whichOf st n)) (y := I 1) (Ev.name (x := "which") (by kernel_rfl)) Ev.const_int addI) trivial (by rw [List.length_map]; exact list_le (by lia))) (congrArg (fun z => VD.dat (.list z)) (pick_drop (k := whichOf st n + 1)))
      · rw [List.length_take, List.length_drop, List.length_map]; exact list_le (by lia)
    · have hk2 : kindOf n ≠ 2 := of_decide_eq_false hk
      have e1 : (laterOf st n j).map encD = st.deeds.map encD ++ [encD (toldOf n % 13, j, codeOf n)] := by
        unfold laterOf; rw [if_neg hk2, List.map_append]; rfl
      rw [e1]
      refine Ev.bin (x := .dat (.list (st.deeds.map encD))) (y := .dat (.list [encD (toldOf n % 13, j, codeOf n)])) (Ev.name (by kernel_rfl)) ?_ (addL ?_)
      · refine EvD.list _ (EvD.cons (EvD.tuple [.int ((toldOf n % 13 : Nat) : Int), .int (j : Int), .int (codeOf n)] ?_ (by show 3 ≤ 1000; decide)) EvD.nil star_tuple) (by show 1 ≤ 1000; decide)
        exact EvD.cons (Ev.conv (Ev.bin (x := I (toldOf n)) (y := I 13) (Ev.name (by kernel_rfl)) Ev.const_int (modI (by decide))) (congrArg I (fmodN (toldOf n) 13))) (EvD.cons (Ev.name (by kernel_rfl)) (EvD.cons (Ev.name (by kernel_rfl)) EvD.nil star_name) star_name) star_bin
      · rw [List.length_map]; exact list_le (by show st.deeds.length + 1 < 1000; lia)
    refine Ex.step (St1.assign (Ev.call (n := 3) (ccs := []) (Ev.global hG hL.leftG rfl) lh.fo (EvA.plain (EvL.cons (Ev.name (by kernel_rfl)) EvL.nil star_name) star_name) (left_law hG hB lh ok.later) (hA.le (by decide)) CsOk.none) (.inl rfl)) ?_
    have hll : (laterOf st n j).length ≤ st.deeds.length + 1 := by
      unfold laterOf
      split
      · rw [List.length_append, List.length_take, List.length_drop]; lia
      · rw [List.length_append]; exact Nat.le_refl _
    have hstop : ∀ σ' : List (Str × VD), goes? st n j = none → (∀ x d, (ksg ns lg hd ar tm { st with times := timesOf st n j }).lookup x = some d → σ'.lookup x = some d) → (∀ x d, (ksg ns lg hd ar tm (stepK st n j)).lookup x = some d → σ'.lookup x = some d) ∧ (kcs prog w lg hd ar tm fs (stepK st n j)).Sublist ((tm, Cell.lst ((timesOf st n j).map .str)) :: (kcs prog w lg hd ar tm fs st).tail) := fun σ' hg hs => by
      rw [show stepK st n j = { st with times := timesOf st n j } by unfold stepK; rw [hg]]
      exact ⟨hs, List.Sublist.refl _⟩
    generalize hlo : leftOf (laterOf st n j) = lo
    cases lo with
    | none =>
      refine Ex.thenRet (Tr.conv (Tr.or (a := true) (b := false) (Tr.cmp (x := .dat .none) (y := .dat .none) (Ev.name (by kernel_rfl)) Ev.const_none isNoneD) nofun) rfl) (Ex.cont ⟨nofun, .inl ⟨.inr rfl, trivial, rfl, ?_⟩⟩)
      refine hstop _ (by unfold goes?; rw [hlo]) ?_
      exact sub_cons (by kernel_rfl) (sub_cons (by kernel_rfl) (sub_cons (by kernel_rfl) (sub_cons (by kernel_rfl) (sub_cons (by kernel_rfl) (sub_cons (by kernel_rfl) (sub_cons (by kernel_rfl) sub_nil))))))
    | some due =>
      by_cases hlen : (laterOf st n j).length = st.deeds.length
      · refine Ex.thenRet (Tr.conv (Tr.or (a := false) (b := true) (Tr.cmp (x := .dat (.list (due.map encH))) (y := .dat .none) (Ev.name (by kernel_rfl)) Ev.const_none isNoneD) fun _ => Tr.conv (Tr.cmp (x := I ((laterOf st n j).length : Int)) (y := I (st.deeds.length : Int)) (Ev.conv (Ev.len (ds := (laterOf st n j).map encD) (Ev.bi hG hB.len') (Ev.name (by kernel_rfl)) (by rw [List.length_map]; lia) star_name) (by rw [List.length_map])) (Ev.conv (Ev.len (ds := st.deeds.map encD) (Ev.bi hG hB.len') (Ev.name (by kernel_rfl)) (by rw [List.length_map]; lia) star_name) (by rw [List.length_map])) (eqD (by have e : (PyData.int ((laterOf st n j).length : Int)).depth = 0 := rfl; rw [e, Nat.zero_min]; lia))) (by rw [eqv_int]; exact decide_eq_true (by lia))) rfl) (Ex.cont ⟨nofun, .inl ⟨.inr rfl, trivial, rfl, ?_⟩⟩)
        refine hstop _ (by unfold goes?; rw [hlo]; exact if_pos hlen) ?_
        exact sub_cons (by kernel_rfl) (sub_cons (by kernel_rfl) (sub_cons (by kernel_rfl) (sub_cons (by kernel_rfl) (sub_cons (by kernel_rfl) (sub_cons (by kernel_rfl) (sub_cons (by kernel_rfl) sub_nil))))))
      refine Ex.skip (Tr.conv (Tr.or (a := false) (b := false) (Tr.cmp (x := .dat (.list (due.map encH))) (y := .dat .none) (Ev.name (by kernel_rfl)) Ev.const_none isNoneD) fun _ => Tr.conv (Tr.cmp (x := I ((laterOf st n j).length : Int)) (y := I (st.deeds.length : Int)) (Ev.conv (Ev.len (ds := (laterOf st n j).map encD) (Ev.bi hG hB.len') (Ev.name (by kernel_rfl)) (by rw [List.length_map]; lia) star_name) (by rw [List.length_map])) (Ev.conv (Ev.len (ds := st.deeds.map encD) (Ev.bi hG hB.len') (Ev.name (by kernel_rfl)) (by rw [List.length_map]; lia) star_name) (by rw [List.length_map])) (eqD (by have e : (PyData.int ((laterOf st n j).length : Int)).depth = 0 := rfl; rw [e, Nat.zero_min]; lia))) (by rw [eqv_int]; exact decide_eq_false (by lia))) rfl) ?_
      have hg : goes? st n j = some due := by unfold goes?; rw [hlo]; exact if_neg hlen
      have hs : stepK st n j = ⟨laterOf st n j, changeL st.log (kindOf n) (deedOf st n j), newPairs st.pairs (due.map (nowRow (timesOf st n j))), timesOf st n j, kvsOf st n j, if kindOf n = 2 then st.kn else st.kn + 2⟩ := by unfold stepK; rw [hg]
      rw [hs]
      obtain ⟨⟨keyT, keyK, rkT, rkK, hch, hq⟩, hlog, hpl, hdu, hdl2, hwl⟩ := ok.due due hg
      have hlgl := hch.ll
      generalize hdeed : deedOf st n j = dd at *
      have htj : ((timesOf st n j).map PyData.str)[((j : Int)).toNat]? = some (.str (timeS (toldOf n % 13) (markOf n) j)) := by
        rw [Int.toNat_natCast, List.getElem?_map]
        show Option.map _ ((st.times ++ [_])[j]?) = _
        rw [List.getElem?_append_right (by rw [ok.tl]; exact Nat.le_refl _), ok.tl, Nat.sub_self]; rfl
      refine Ex.step (St1.assign (d := .dat (encR (timeS (toldOf n % 13) (markOf n) j, keyStr (codeOf n)))) (EvD.tuple [.str (timeS (toldOf n % 13) (markOf n) j), .str (keyStr (codeOf n))] (EvD.cons (Ev.subCell (x := "times") (a := tm) (by kernel_rfl) (.head _) (Ev.name (by kernel_rfl)) (by lia) (by lia) htj) (EvD.cons (Ev.call (n := 2) (ccs := []) (Ev.global hG hL.keyG rfl) kh.fo (EvA.plain (EvL.cons (Ev.name (by kernel_rfl)) EvL.nil star_name) star_name) (key_law hG kh hc13) (hA.le (by decide)) CsOk.none) EvD.nil star_call) star_sub) (by show 2 ≤ 1000; decide)) (.inl rfl)) ?_
      refine Ex.ite (c := decide (kindOf n = 2)) (Q1 := fun fd W' σ' cs' => fd = .next ∧ W' = Wk ∧ cs' = [(tm, .lst ((timesOf st n j).map .str)), (ar, .tab prog w (if kindOf n = 2 then st.kn else st.kn + 2) (kvsOf st n j)), (hd, .lst (st.pairs.map encR)), (lg, .lst (st.log.map encR))] ++ frs fs ∧
        ∀ x d, (("deed", .dat (encR dd)) :: ("due", .dat (.list (due.map encH))) :: ("later", .dat (.list ((laterOf st n j).map encD))) :: ("kind", I (kindOf n)) :: ksg ns lg hd ar tm st : List (Str × VD)).lookup x = some d → σ'.lookup x = some d) (tr_kind (k := 2) (by kernel_rfl) (by decide) (by lia)) (fun hk => ?_) (fun hk => ?_) (fun W' σ' cs' hq1 => ?_) (fun fd _ _ _ ne hq1 => absurd hq1.1 ne)
      · have hk2 : kindOf n = 2 := of_decide_eq_true hk
        have hit2 : (st.log.map encR)[((whichOf st n : Int)).toNat]? = some (encR dd) := by
          rw [Int.toNat_natCast, List.getElem?_map, ← hdeed]
          unfold deedOf
          rw [if_pos hk2, List.getElem?_eq_getElem (hwl hk2)]; rfl
        refine Ex.step (St1.assign (d := .dat (encR dd)) (Ev.sub (x := .dat (.list (st.log.map encR))) (y := I (whichOf st n)) (Ev.meth (hd := lg) (n := 2) (xs := []) (ccs := [(lg, .lst (st.log.map encR))]) (Ev.name (by kernel_rfl)) hL.hE.itemsM ih.fo EvA.nil (items_law hL.hE (by rw [List.length_map]; exact list_le (by lia))) (hA.le (by decide)) (CsOk.quiet (cs_cons (.tail _ (.tail _ (.tail _ (.head _)))) no_cs) (fun _ => by simp))) (Ev.name (by kernel_rfl)) (itL (by lia) (by lia) hit2)) (.inl rfl)) (Ex.nil ⟨rfl, rfl, ?_, ?_⟩)
        · rw [if_pos hk2, show kvsOf st n j = st.kvs from if_pos hk2]; rfl
        · exact sub_cons (by kernel_rfl) (sub_cons (by kernel_rfl) (sub_cons (by kernel_rfl) (sub_cons (by kernel_rfl) (sub_cons (by kernel_rfl) (sub_cons (by kernel_rfl) (sub_cons (by kernel_rfl) (sub_cons (by kernel_rfl) (sub_cons (by kernel_rfl) (sub_cons (by kernel_rfl) (sub_cons (by kernel_rfl) sub_nil))))))))))
      · have hk2 : kindOf n ≠ 2 := of_decide_eq_false hk
        have hdd : dd = (timeS (toldOf n % 13) (markOf n) j, keyStr (codeOf n)) := by rw [← hdeed]; exact if_neg hk2
        obtain ⟨ps1, hv1, hc1⟩ := ok.ts hk2
        obtain ⟨ps2, hv2, hc2⟩ := ok.ks hk2
        have hne := ok.ne hk2
        have hkn := ok.kn
        have hkv : kvsOf st n j = (keyStr (codeOf n), .list (keyR (codeOf n))) :: (timeS (toldOf n % 13) (markOf n) j, .list (timeR (toldOf n % 13) j)) :: st.kvs := if_neg hk2
        rw [hkv, if_neg hk2, hdd]
        have hR1 := timeR_ok _ ht13 _ hp64
        have hR2 := keyR_ok (n := n)
        generalize timeS (toldOf n % 13) (markOf n) j = t at *
        generalize keyStr (codeOf n) = ky at *
        refine Ex.stepU (St1.setTab (a := ar) (n := st.kn) (kvs := st.kvs) (k := t) (d := .list (timeR (toldOf n % 13) j)) (EvM.conv (EvM.compv (x := t) hL.ver hL.compG hL.compF hv1 (hA.le (by decide)) hF (fsub _ _ _ _) w5 rfl (Ev.sub (x := .dat (.tuple [.str t, .str ky])) (y := I 0) (Ev.name (by kernel_rfl)) Ev.const_int (itT (by decide) (by decide) (j := 0) rfl rfl)) star_sub) (by rw [hc1])) (by kernel_rfl) (Ev.sub (x := .dat (.tuple [.str t, .str ky])) (y := I 0) (Ev.name (by kernel_rfl)) Ev.const_int (itT (by decide) (by decide) (j := 0) rfl rfl)) w2 (.tail .head) (by lia)) ?_
        refine Ex.stepU (St1.setTab (a := ar) (n := st.kn + 1) (k := ky) (d := .list (keyR (codeOf n))) (EvM.conv (EvM.compv (x := ky) hL.ver hL.compG hL.compF hv2 (hA.le (by decide)) hF (fsub _ _ _ _) w5 rfl (Ev.sub (x := .dat (.tuple [.str t, .str ky])) (y := I 1) (Ev.name (by kernel_rfl)) Ev.const_int (itT (by decide) (by decide) (j := 1) rfl rfl)) star_sub) (by rw [hc2])) (by kernel_rfl) (Ev.sub (x := .dat (.tuple [.str t, .str ky])) (y := I 1) (Ev.name (by kernel_rfl)) Ev.const_int (itT (by decide) (by decide) (j := 1) rfl rfl)) w2 (.tail .head) (by lia)) ?_
        have hk1 : (((ky, PyData.list (keyR (codeOf n))) :: (t, .list (timeR (toldOf n % 13) j)) :: st.kvs : List (Str × PyData)).lookup t) = some (.list (timeR (toldOf n % 13) j)) := by
          rw [List.lookup_cons, show (t == ky) = false by simpa using fun e => hne e.symm, List.lookup_cons, beq_self_eq_true]
        have hk0 : (((ky, PyData.list (keyR (codeOf n))) :: (t, .list (timeR (toldOf n % 13) j)) :: st.kvs : List (Str × PyData)).lookup ky) = some (.list (keyR (codeOf n))) := by
          rw [List.lookup_cons, beq_self_eq_true]
        refine Ex.skip (Tr.conv (Tr.cmp (x := .dat (.list (timeR (toldOf n % 13) j))) (y := .dat (.list (timeR (toldOf n % 13) j))) (Ev.subTab (a := ar) (by kernel_rfl) (.tail _ (.head _)) (Ev.sub (x := .dat (.tuple [.str t, .str ky])) (y := I 0) (Ev.name (by kernel_rfl)) Ev.const_int (itT (by decide) (by decide) (j := 0) rfl rfl)) hk1) (Ev.bin (x := .dat (.list (rankD (toldOf n % 13)))) (y := .dat (.list [.int 100, .int (j : Int)])) (Ev.call (n := 2) (ccs := []) (Ev.global hG hL.ranksG rfl) rh.fo (EvA.plain (EvL.cons (Ev.conv (Ev.bin (x := I (toldOf n)) (y := I 13) (Ev.name (by kernel_rfl)) Ev.const_int (modI (by decide))) (congrArg I (fmodN (toldOf n) 13))) EvL.nil star_bin) star_bin) (ranks_law hG rh ht13) (hA.le (by decide)) CsOk.none) (EvD.list [.int 100, .int (j : Int)] (EvD.cons Ev.const_int (EvD.cons (Ev.name (by kernel_rfl)) EvD.nil star_name) star_const) (by show 2 ≤ 1000; decide)) (addL (by rw [sizeLine_eq]; show 4 + 2 ≤ 16777216; decide))) (neD (by have := hR1.1; have := Nat.min_le_left (PyData.list (timeR (toldOf n % 13) j)).depth (PyData.list (timeR (toldOf n % 13) j)).depth; lia))) (by rw [hR1.2]; rfl)) ?_
        refine Ex.skip (Tr.conv (Tr.cmp (x := .dat (.list (keyR (codeOf n)))) (y := .dat (.list (keyR (codeOf n)))) (Ev.subTab (a := ar) (by kernel_rfl) (.tail _ (.head _)) (Ev.sub (x := .dat (.tuple [.str t, .str ky])) (y := I 1) (Ev.name (by kernel_rfl)) Ev.const_int (itT (by decide) (by decide) (j := 1) rfl rfl)) hk0) ?_ (neD (by have := hR2.1; have := Nat.min_le_left (PyData.list (keyR (codeOf n))).depth (PyData.list (keyR (codeOf n))).depth; lia))) (by rw [hR2.2]; rfl)) (Ex.nil ⟨rfl, rfl, rfl, ?_⟩)
        · refine Ev.conv (Ev.ifExp (c := decide (kindOf n = 0)) (x := .dat (.list (rankD (n / 1000 % 100 % 13)))) (y := .dat (.list [])) (tr_kind (k := 0) (by kernel_rfl) (by decide) (by lia)) (fun hk0 => ?_) fun _ => EvD.list [] EvD.nil (by decide)) ?_
          · have hc0 : codeOf n = ((n / 1000 % 100 % 13 : Nat) : Int) := if_pos (of_decide_eq_true hk0)
            exact Ev.call (n := 2) (ccs := []) (Ev.global hG hL.ranksG rfl) rh.fo (EvA.plain (EvL.cons (Ev.conv (Ev.name (by kernel_rfl)) (congrArg I hc0)) EvL.nil star_name) star_name) (ranks_law hG rh (Nat.mod_lt _ (by decide))) (hA.le (by decide)) CsOk.none
          · by_cases hk0 : kindOf n = 0
            · have hc0 : codeOf n = ((n / 1000 % 100 % 13 : Nat) : Int) := if_pos hk0
              rw [if_pos (decide_eq_true hk0), show keyR (codeOf n) = rankD (n / 1000 % 100 % 13) by rw [hc0]; unfold keyR; rw [if_neg (by lia), Int.toNat_natCast]]
            · have hc0 : codeOf n = -1 := if_neg hk0
              rw [if_neg (by simp [hk0]), hc0]; rfl
        · exact sub_cons (by kernel_rfl) (sub_cons (by kernel_rfl) (sub_cons (by kernel_rfl) (sub_cons (by kernel_rfl) (sub_cons (by kernel_rfl) (sub_cons (by kernel_rfl) (sub_cons (by kernel_rfl) (sub_cons (by kernel_rfl) (sub_cons (by kernel_rfl) (sub_cons (by kernel_rfl) (sub_cons (by kernel_rfl) sub_nil))))))))))
      · obtain ⟨_, e1, e2, hsub⟩ := hq1
        have e1' := e1.symm
        subst e1' e2
        refine Ex.less ?_ hsub (List.Sublist.refl _)
        obtain ⟨hn1, hn2, hn3, hn4⟩ : ar ≠ hd ∧ ar ≠ lg ∧ lg ≠ hd ∧ tm ≠ hd ∧ tm ≠ lg := by
          simp only [List.map_cons, List.map_nil, List.nodup_cons, List.mem_cons, List.not_mem_nil, or_false, not_or] at hnd
          exact ⟨hnd.2.1.1, hnd.2.1.2.1, fun e => hnd.2.2.1.1 e.symm, hnd.1.2.1, hnd.1.2.2.1⟩
        have hchg := change_law hL.toChEnv ch ct' hn1 hn2 hn3 (n := if kindOf n = 2 then st.kn else st.kn + 2) hch
        rw [hq] at hchg
        generalize hnp : newPairs st.pairs (due.map (nowRow (timesOf st n j))) = np at *
        generalize changeL st.log (kindOf n) dd = nl at *
        have hnf : ∀ p, p ∈ frs fs → p.1 ≠ lg ∧ p.1 ≠ hd := fun p hp => by
          have h1 : (tm :: ar :: hd :: lg :: (frs fs).map (·.1)).Nodup := hnd
          rw [List.nodup_cons, List.nodup_cons, List.nodup_cons, List.nodup_cons] at h1
          have hm : p.1 ∈ (frs fs).map (·.1) := List.mem_map_of_mem hp
          exact ⟨fun e => h1.2.2.2.1 (e ▸ hm), fun e => h1.2.2.1 (.tail _ (e ▸ hm))⟩
        have hcs : CsOk X' Wk (callEnvC (fnOf (theDef 20) nm qn kd doc pm cv ct) L' a) [lg, hd] ((tm, .lst ((timesOf st n j).map .str)) :: (ar, .tab prog w (if kindOf n = 2 then st.kn else st.kn + 2) (kvsOf st n j)) :: (hd, .lst (st.pairs.map encR)) :: (lg, .lst (st.log.map encR)) :: frs fs)
            ((tm, .lst ((timesOf st n j).map .str)) :: (ar, .tab prog w (if kindOf n = 2 then st.kn else st.kn + 2) (kvsOf st n j)) :: (hd, .lst (np.map encR)) :: (lg, .lst (nl.map encR)) :: frs fs)
            [(lg, .lst (st.log.map encR)), (hd, .lst (st.pairs.map encR)), (ar, .tab prog w (if kindOf n = 2 then st.kn else st.kn + 2) (kvsOf st n j))] [(lg, .lst (nl.map encR)), (hd, .lst (np.map encR))] :=
          ⟨cs_cons (.tail _ (.tail _ (.tail _ (.head _)))) (cs_cons (.tail _ (.tail _ (.head _))) (cs_cons (.tail _ (.head _)) no_cs)), fun _ => by
            simp only [List.map_cons, List.map_nil, List.nodup_cons, List.mem_cons, List.not_mem_nil, or_false, not_or, not_false_eq_true, List.nodup_nil, and_true]
            exact ⟨⟨hn3, fun e => hn2 e.symm⟩, fun e => hn1 e.symm⟩, fun b hb => by
            rcases List.mem_cons.mp hb with rfl | hb
            · exact w4
            · rw [List.mem_singleton.mp hb]; exact w3, fun b hb => by
            rcases List.mem_cons.mp hb with rfl | hb
            · exact .tail _ (.tail _ (.tail _ (.head _)))
            · rw [List.mem_singleton.mp hb]; exact .tail _ (.tail _ (.head _)), fun p hp => by
            rcases List.mem_cons.mp hp with rfl | hp
            · exact .inr ⟨.head _, fun h => (List.mem_cons.mp h).elim hn4.2 fun h => hn4.1 (List.mem_singleton.mp h)⟩
            rcases List.mem_cons.mp hp with rfl | hp
            · exact .inr ⟨.tail _ (.head _), fun h => (List.mem_cons.mp h).elim hn2 fun h => hn1 (List.mem_singleton.mp h)⟩
            rcases List.mem_cons.mp hp with rfl | hp
            · exact .inl (.tail _ (.head _))
            rcases List.mem_cons.mp hp with rfl | hp
            · exact .inl (.head _)
            · exact .inr ⟨.tail _ (.tail _ (.tail _ (.tail _ hp))), fun h => (List.mem_cons.mp h).elim (hnf p hp).1 fun h => (hnf p hp).2 (List.mem_singleton.mp h)⟩, rfl⟩
        refine Ex.step (St1.call (Ev.global hG hL.changeG rfl) ch.fo (EvA.plain (EvL.cons (Ev.name (by kernel_rfl)) (EvL.cons (Ev.name (by kernel_rfl)) (EvL.cons (Ev.name (by kernel_rfl)) (EvL.cons (Ev.name (by kernel_rfl)) (EvL.cons (Ev.name (by kernel_rfl)) EvL.nil star_name) star_name) star_name) star_name) star_name) star_name) hchg (hA.le (by decide)) hcs) ?_
        refine Ex.step (St1.assign (d := .dat (.list ((laterOf st n j).map encD))) (Ev.name (by kernel_rfl)) (.inl rfl)) ?_
        have htl : (timesOf st n j).length = j + 1 := by show (st.times ++ [_]).length = _; rw [List.length_append, ok.tl]; rfl
        refine Ex.step (St1.assign (d := .dat (.list ((due.map (nowRow (timesOf st n j))).map encR))) ?_ (.inr ⟨rfl, rfl⟩)) ?_
        · refine Ev.conv (Ev.comp (x := "one") (xs := due) (enc := encH) (p := fun _ => true) (f := fun h => encR (nowRow (timesOf st n j) h)) (cl := [("times", L' + 1 + 1)]) (σc := [("times", .is (.ref tm))]) rfl (by decide) rfl (by decide) rfl (cl_cons (by kernel_rfl) cl_nil) (.cons (by kernel_rfl) rfl rfl rfl rfl .nil) (EvS.list hA.hh (Ev.name (by kernel_rfl)) (list_le (by lia))) (fun C X' r hr => TrL.nil) (fun C X' r hr _ => ?_)) ?_
          · exact EvD.tuple [.str (keyStr (r.1 : Int)), .str (((timesOf st n j)[r.2.2]?).getD "")] (EvD.cons (Ev.call (n := 2) (ccs := []) (Ev.global hG hL.keyG rfl) kh.fo (EvA.plain (EvL.cons (Ev.sub (x := .dat (.tuple [.int r.1, .int r.2.1, .int r.2.2])) (y := I 0) (Ev.name (by kernel_rfl)) Ev.const_int (itT (by decide) (by decide) (j := 0) rfl rfl)) EvL.nil star_sub) star_sub) (key_law hG kh (by have := (hdu r hr).2; lia)) (hA.le (by decide)) CsOk.none)
              (EvD.cons (Ev.subCell (x := "times") (a := tm) (by kernel_rfl) (.head _) (Ev.sub (x := .dat (.tuple [.int r.1, .int r.2.1, .int r.2.2])) (y := I 2) (Ev.name (by kernel_rfl)) Ev.const_int (itT (by decide) (by decide) (j := 2) rfl rfl)) (by lia) (by have := (hdu r hr).1; lia) (str_at (by rw [htl]; exact (hdu r hr).1))) EvD.nil star_sub) star_call) (by show 2 ≤ 1000; decide)
          · rw [List.filter_eq_self.mpr (fun _ _ => rfl), List.map_map]; rfl
        have hpl2 := ok.pl
        have hnowd := depth_rows (due.map (nowRow (timesOf st n j)))
        have hnl : (due.map (nowRow (timesOf st n j))).length < 60 := by rw [List.length_map]; exact hdl2
        generalize due.map (nowRow (timesOf st n j)) = now at *
        have d1 : ∀ r : Row, (encR r).depth = 1 := fun _ => rfl
        refine Ex.step (St1.assign (d := .dat (.list ((goneP st.pairs now).map encR))) (Ev.comp (x := "pair") (xs := st.pairs) (enc := encR) (p := fun r => !decide (r ∈ now)) (f := encR) (cl := [("now", L' + 1 + 1 + 1)]) (σc := [("now", .dat (.list (now.map encR)))]) rfl (by decide) rfl (by decide) rfl (cl_cons (by kernel_rfl) cl_nil) (.cons (by kernel_rfl) rfl rfl rfl rfl .nil) (EvS.list hA.hh (Ev.name (by kernel_rfl)) (list_le (by lia)))
          (fun C X' r hr => TrL.one (Tr.conv (Tr.cmp (x := .dat (encR r)) (y := .dat (.list (now.map encR))) (Ev.name (by kernel_rfl)) (Ev.name (by kernel_rfl)) (notInD (by have := Nat.min_le_right (PyData.depthAll (now.map encR)) (encR r).depth; rw [d1] at this ⊢; lia))) (by rw [any_encR]))) (fun C X' r hr _ => Ev.name (by kernel_rfl))) (.inr ⟨rfl, rfl⟩)) ?_
        have hgl : (goneP st.pairs now).length ≤ st.pairs.length := List.length_filter_le _ _
        have hgd := depth_rows (goneP st.pairs now)
        refine Ex.step (St1.assign (d := .dat (.list (((goneP st.pairs now).map (·.1)).map .str))) (Ev.conv (Ev.comp (x := "pair") (xs := goneP st.pairs now) (enc := encR) (p := fun _ => true) (f := fun r => .str r.1) (cl := []) (σc := []) rfl (by decide) rfl (by decide) rfl cl_nil .nil (EvS.list hA.hh (Ev.name (by kernel_rfl)) (list_le (by lia)))
          (fun C X' r hr => TrL.nil) (fun C X' r hr _ => (Ev.sub (x := .dat (.tuple [.str r.1, .str r.2])) (y := I 0) (Ev.name (by kernel_rfl)) Ev.const_int (itT (by decide) (by decide) (j := 0) rfl rfl)))) (by rw [List.filter_eq_self.mpr (fun _ _ => rfl), List.map_map]; rfl)) (.inr ⟨rfl, rfl⟩)) ?_
        refine Ex.step (St1.comp (x := "pair") (xs := st.pairs) (enc := encR) (p := fun r => decide (r.1 ∈ (goneP st.pairs now).map (·.1)) && !decide (r ∈ goneP st.pairs now)) (f := encR) (cl := [("keys", L' + 1 + 1 + 1 + 1 + 1), ("gone", L' + 1 + 1 + 1 + 1)]) (σc := [("gone", .dat (.list ((goneP st.pairs now).map encR))), ("keys", .dat (.list (((goneP st.pairs now).map (·.1)).map .str)))]) rfl rfl rfl (by decide) rfl (by decide) rfl (cl_cons (by kernel_rfl) (cl_cons (by kernel_rfl) cl_nil)) (.cons (by kernel_rfl) rfl rfl rfl rfl (.cons (by kernel_rfl) rfl rfl rfl rfl .nil)) (EvS.list hA.hh (Ev.name (by kernel_rfl)) (list_le (by lia)))
          (fun C X' r hr => TrL.one (Tr.and (Tr.conv (Tr.cmp (x := .dat (.str r.1)) (y := .dat (.list (((goneP st.pairs now).map (·.1)).map .str))) (Ev.sub (x := .dat (.tuple [.str r.1, .str r.2])) (y := I 0) (Ev.name (by kernel_rfl)) Ev.const_int (itT (by decide) (by decide) (j := 0) rfl rfl)) (Ev.name (by kernel_rfl)) (inD (by have e : (PyData.str r.1).depth = 0 := rfl; rw [e, Nat.min_zero]; lia))) (by rw [any_str])) fun _ => Tr.conv (Tr.cmp (x := .dat (encR r)) (y := .dat (.list ((goneP st.pairs now).map encR))) (Ev.name (by kernel_rfl)) (Ev.name (by kernel_rfl)) (notInD (by have := Nat.min_le_right (PyData.depthAll ((goneP st.pairs now).map encR)) (encR r).depth; rw [d1] at this ⊢; lia))) (by rw [any_encR]))) (fun C X' r hr _ => Ev.name (by kernel_rfl))) ?_
        refine Ex.step (St1.comp (x := "pair") (xs := now) (enc := encR) (p := fun r => !decide (r ∈ st.pairs)) (f := encR) (cl := [("pairs", L' + 1)]) (σc := [("pairs", .dat (.list (st.pairs.map encR)))]) rfl rfl rfl (by decide) rfl (by decide) rfl (cl_cons (by kernel_rfl) cl_nil) (.cons (by kernel_rfl) rfl rfl rfl rfl .nil) (EvS.list hA.hh (Ev.name (by kernel_rfl)) (list_le (by lia)))
          (fun C X' r hr => TrL.one (Tr.conv (Tr.cmp (x := .dat (encR r)) (y := .dat (.list (st.pairs.map encR))) (Ev.name (by kernel_rfl)) (Ev.name (by kernel_rfl)) (notInD (by have := Nat.min_le_right (PyData.depthAll (st.pairs.map encR)) (encR r).depth; rw [d1] at this ⊢; lia))) (by rw [any_encR]))) (fun C X' r hr _ => Ev.name (by kernel_rfl))) ?_
        refine Ex.step (St1.assign (d := .dat (.list (np.map encR))) ?_ (.inr ⟨rfl, rfl⟩)) ?_
        · have e : np.map encR = (st.pairs.filter fun p => !decide (p.1 ∈ (goneP st.pairs now).map (·.1))).map encR ++ (st.pairs.filter fun p => decide (p.1 ∈ (goneP st.pairs now).map (·.1)) && !decide (p ∈ goneP st.pairs now)).map encR ++ (now.filter fun p => !decide (p ∈ st.pairs)).map encR := by
            rw [← hnp]; unfold newPairs; rw [List.map_append, List.map_append]
          refine Ev.conv ?_ (congrArg (fun z => VD.dat (.list z)) e.symm)
          have l1 : ∀ p : Row → Bool, ((st.pairs.filter p).map encR).length ≤ 60 := fun p => by rw [List.length_map]; have := List.length_filter_le p st.pairs; lia
          have l2 : ∀ p : Row → Bool, ((now.filter p).map encR).length ≤ 60 := fun p => by rw [List.length_map]; have := List.length_filter_le p now; lia
          refine Ev.bin (Ev.bin ?cp (Ev.name (by kernel_rfl)) (addL ?n1)) (Ev.name (by kernel_rfl)) (addL ?n2)
          case cp =>
            refine Ev.conv (Ev.comp (x := "pair") (xs := st.pairs) (enc := encR) (p := fun r => !decide (r.1 ∈ (goneP st.pairs now).map (·.1))) (f := encR) (cl := [("keys", L' + 1 + 1 + 1 + 1 + 1)]) (σc := [("keys", .dat (.list (((goneP st.pairs now).map (·.1)).map .str)))]) rfl (by decide) rfl (by decide) rfl (cl_cons (by kernel_rfl) cl_nil) (.cons (by kernel_rfl) rfl rfl rfl rfl .nil) (EvS.list hA.hh (Ev.name (by kernel_rfl)) (list_le (by lia)))
              (fun C X' r hr => TrL.one (Tr.conv (Tr.cmp (x := .dat (.str r.1)) (y := .dat (.list (((goneP st.pairs now).map (·.1)).map .str))) (Ev.sub (x := .dat (.tuple [.str r.1, .str r.2])) (y := I 0) (Ev.name (by kernel_rfl)) Ev.const_int (itT (by decide) (by decide) (j := 0) rfl rfl)) (Ev.name (by kernel_rfl)) (notInD (by have e : (PyData.str r.1).depth = 0 := rfl; rw [e, Nat.min_zero]; lia))) (by rw [any_str]))) (fun C X' r hr _ => Ev.name (by kernel_rfl))) ?_
            rfl
          case n1 =>
            have h1 := l1 (fun p => !decide (p.1 ∈ (goneP st.pairs now).map (·.1))); have h2 := l1 (fun p => decide (p.1 ∈ (goneP st.pairs now).map (·.1)) && !decide (p ∈ goneP st.pairs now))
            exact list_le (by lia)
          case n2 =>
            have h1 := l1 (fun p => !decide (p.1 ∈ (goneP st.pairs now).map (·.1))); have h2 := l1 (fun p => decide (p.1 ∈ (goneP st.pairs now).map (·.1)) && !decide (p ∈ goneP st.pairs now)); have h3 := l2 (fun p => !decide (p ∈ st.pairs))
            rw [List.length_append]
            exact list_le (by lia)
        have hnpl : np.length < 200 := by
          rw [← hnp]
          unfold newPairs
          have h1 := List.length_filter_le (fun p => !decide (p.1 ∈ (goneP st.pairs now).map (·.1))) st.pairs
          have h2 := List.length_filter_le (fun p => decide (p.1 ∈ (goneP st.pairs now).map (·.1)) && !decide (p ∈ goneP st.pairs now)) st.pairs
          have h3 := List.length_filter_le (fun p => !decide (p ∈ st.pairs)) now
          rw [List.length_append, List.length_append]; lia
        have hnll : nl.length < 64 := by rw [hlog, List.length_map]; exact ok.later.len
        have hnpd := depth_rows np
        have hnld := depth_rows nl
        refine Ex.skip (Tr.conv (Tr.cmp (x := .dat (.list (np.map encR))) (y := .dat (.list (np.map encR))) (Ev.meth (hd := hd) (n := 2) (xs := []) (ccs := [(hd, .lst (np.map encR))]) (Ev.name (by kernel_rfl)) hL.hE.itemsM ih.fo EvA.nil (items_law hL.hE (by rw [List.length_map]; exact list_le (by lia))) (hA.le (by decide)) (CsOk.quiet (cs_cons (.tail _ (.tail _ (.head _))) no_cs) (fun _ => by simp))) (Ev.name (by kernel_rfl)) (neD (by have := Nat.min_le_left (PyData.list (np.map encR)).depth (PyData.list (np.map encR)).depth; lia))) (by rw [eqv_rows]; rfl)) ?_
        refine Ex.skip (Tr.conv (Tr.cmp (x := .dat (.list (nl.map encR))) (y := .dat (.list (nl.map encR))) (Ev.meth (hd := lg) (n := 2) (xs := []) (ccs := [(lg, .lst (nl.map encR))]) (Ev.name (by kernel_rfl)) hL.hE.itemsM ih.fo EvA.nil (items_law hL.hE (by rw [List.length_map]; exact list_le (by lia))) (hA.le (by decide)) (CsOk.quiet (cs_cons (.tail _ (.tail _ (.tail _ (.head _)))) no_cs) (fun _ => by simp))) ?_ (neD (by have := Nat.min_le_left (PyData.list (nl.map encR)).depth (PyData.list (nl.map encR)).depth; lia))) (by rw [eqv_rows]; rfl)) (Ex.nil (.inl ⟨.inl rfl, trivial, rfl, ?_, ?_⟩))
        · rw [hlog]
          refine Ev.conv (Ev.comp (x := "one") (xs := laterOf st n j) (enc := encD) (p := fun _ => true) (f := fun h => encR (logRow (timesOf st n j) h)) (cl := [("times", L' + 1 + 1)]) (σc := [("times", .is (.ref tm))]) rfl (by decide) rfl (by decide) rfl (cl_cons (by kernel_rfl) cl_nil) (.cons (by kernel_rfl) rfl rfl rfl rfl .nil) (EvS.list hA.hh (Ev.name (by kernel_rfl)) (list_le (by lia))) (fun C X' r hr => TrL.nil) (fun C X' r hr _ => ?_)) ?_
          · exact EvD.tuple [.str (((timesOf st n j)[r.2.1]?).getD ""), .str (keyStr r.2.2)] (EvD.cons (Ev.subCell (x := "times") (a := tm) (by kernel_rfl) (.head _) (Ev.sub (x := .dat (.tuple [.int r.1, .int r.2.1, .int r.2.2])) (y := I 1) (Ev.name (by kernel_rfl)) Ev.const_int (itT (by decide) (by decide) (j := 1) rfl rfl)) (by lia) (by have := hpl r hr; lia) (str_at (by rw [htl]; exact hpl r hr)))
              (EvD.cons (Ev.call (n := 2) (ccs := []) (Ev.global hG hL.keyG rfl) kh.fo (EvA.plain (EvL.cons (Ev.sub (x := .dat (.tuple [.int r.1, .int r.2.1, .int r.2.2])) (y := I 2) (Ev.name (by kernel_rfl)) Ev.const_int (itT (by decide) (by decide) (j := 2) rfl rfl)) EvL.nil star_sub) star_sub) (key_law hG kh (ok.later.small r hr).2.2) (hA.le (by decide)) CsOk.none) EvD.nil star_call) star_sub) (by show 2 ≤ 1000; decide)
          · rw [List.filter_eq_self.mpr (fun _ _ => rfl), List.map_map]; rfl
        · exact sub_cons (by kernel_rfl) (sub_cons (by kernel_rfl) (sub_cons (by kernel_rfl) (sub_cons (by kernel_rfl) (sub_cons (by kernel_rfl) (sub_cons (by kernel_rfl) (sub_cons (by kernel_rfl) sub_nil))))))
        · exact List.Sublist.refl _
  · exact Ex.ret Ev.const_bool ⟨.inl rfl, fun p hp => .tail _ (.tail _ (.tail _ (.tail _ hp)))⟩
end
end Mine
set_option maxRecDepth 100000
set_option maxHeartbeats 2000000
namespace Mine
open PySem PySem.W PyProof.Rows PySem.Calls

/-! the queue's run, up to order: what is held, the deeds (a rank is laid, or the least is taken), what is taken, what is left -/
inductive Run : List Nat → List (Option Nat) → List Nat → List Nat → Prop
  | nil {Q F : List Nat} : Q.Perm F → Run Q [] [] F
  | put {Q R T F} {e : Nat} : Run (e :: Q) R T F → Run Q (some e :: R) T F
  | take {Q Q1 R T F} {m : Nat} : Q.Perm (m :: Q1) → (∀ x, x ∈ Q → m ≤ x) → Run Q1 R T F → Run Q (none :: R) (m :: T) F
noncomputable abbrev lays (R : List (Option Nat)) : List Nat := R.filterMap id
theorem lays_put {e : Nat} {R : List (Option Nat)} : lays (some e :: R) = e :: lays R := rfl
theorem Run.perm {Q R T F} (h : Run Q R T F) : ∀ {Q'}, Q.Perm Q' → Run Q' R T F := by
  induction h with
  | nil p => exact fun q => .nil (q.symm.trans p)
  | put _ ih => exact fun q => .put (ih (q.cons _))
  | take p l h _ => exact fun q => .take (q.symm.trans p) (fun x hx => l x (q.symm.subset hx)) h
theorem Run.all {Q R T F} (h : Run Q R T F) : (Q ++ lays R).Perm (T ++ F) := by
  induction h with
  | nil p => exact (List.append_nil _).symm ▸ p
  | put _ ih => exact (List.perm_middle).trans ih
  | take p _ _ ih => exact (p.append_right _).trans (ih.cons _)
theorem Run.takes {Q R T F} (h : Run Q R T F) : T.length = (R.filter fun o => o.isNone).length := by
  induction h with
  | nil p => rfl
  | put _ ih => exact ih
  | take p _ _ ih => exact congrArg Nat.succ ih
theorem Run.split {R F} : ∀ {P Q T}, Run Q (P ++ R) T F → ∃ Qm T1 T2, T = T1 ++ T2 ∧ Run Q P T1 Qm ∧ Run Qm R T2 F
  | [], Q, T, h => ⟨Q, [], T, rfl, .nil (List.Perm.refl _), h⟩
  | _ :: P, Q, _, .put h => by
    obtain ⟨Qm, T1, T2, e, h1, h2⟩ := Run.split (P := P) h
    exact ⟨Qm, T1, T2, e, .put h1, h2⟩
  | _ :: P, Q, _, .take p l h => by
    obtain ⟨Qm, T1, T2, e, h1, h2⟩ := Run.split (P := P) h
    exact ⟨Qm, _ :: T1, T2, congrArg _ e, .take p l h1, h2⟩
theorem perm_drop {a : Nat} {l m : List Nat} (h : (a :: l).Perm (a :: m)) : l.Perm m := (List.perm_cons a).mp h
theorem perm_two {a b : Nat} {l m : List Nat} (h : (a :: l).Perm (b :: a :: m)) : l.Perm (b :: m) := perm_drop (h.trans (List.Perm.swap ..))
/-- one more is held: the greatest of it and of what was taken is left over -/
theorem Run.up {Q R T F} (h : Run Q R T F) : ∀ {y Q' T' F'}, Q'.Perm (y :: Q) → Run Q' R T' F' → ∃ y', F'.Perm (y' :: F) ∧ y' ∈ y :: T ∧ ∀ z, z ∈ y :: T → z ≤ y' := by
  induction h with
  | nil p =>
    intro y Q' T' F' q h'
    cases h' with
    | nil p' => exact ⟨y, p'.symm.trans (q.trans (p.cons _)), .head _, fun z hz => by rw [List.mem_singleton.mp hz]; exact Nat.le_refl _⟩
  | put _ ih =>
    intro y Q' T' F' q h'
    cases h' with
    | put h' => exact ih ((q.cons _).trans (List.Perm.swap ..)) h'
  | @take Q Q1 R T F m p l _ ih =>
    intro y Q' T' F' q h'
    cases h' with
    | @take _ Q1' _ T1' _ m' p' l' h' =>
      have ym : y ∈ Q' := q.symm.subset (.head _)
      have mm : m ∈ Q' := q.symm.subset (.tail _ (p.symm.subset (.head _)))
      have m'm : m' ∈ y :: Q := q.subset (p'.symm.subset (.head _))
      rcases Nat.lt_or_ge y m with c | c
      · have e : m' = y := by
          rcases List.mem_cons.mp m'm with e | e
          · exact e
          · exact absurd (Nat.lt_of_lt_of_le c (Nat.le_trans (l _ e) (l' _ ym))) (Nat.lt_irrefl _)
        subst e
        obtain ⟨y', a, b, d⟩ := ih (y := m) ((perm_drop (p'.symm.trans q)).trans p) h'
        refine ⟨y', a, .tail _ b, fun z hz => ?_⟩
        rcases List.mem_cons.mp hz with rfl | hz
        · exact Nat.le_trans (Nat.le_of_lt c) (d m (.head _))
        · exact d z hz
      · have e : m' = m := Nat.le_antisymm (l' _ mm) ((List.mem_cons.mp m'm).elim (fun e => e ▸ c) (l _))
        subst e
        obtain ⟨y', a, b, d⟩ := ih (y := y) (perm_two (p'.symm.trans (q.trans (p.cons _)))) h'
        refine ⟨y', a, ?_, fun z hz => ?_⟩
        · rcases List.mem_cons.mp b with rfl | b
          · exact .head _
          · exact .tail _ (.tail _ b)
        · rcases List.mem_cons.mp hz with rfl | hz
          · exact d _ (.head _)
          · rcases List.mem_cons.mp hz with rfl | hz
            · exact Nat.le_trans c (d _ (.head _))
            · exact d z (.tail _ hz)
theorem Run.app {R F T2 Q P T1 Qp} (h : Run Q P T1 Qp) (h2 : Run Qp R T2 F) : Run Q (P ++ R) (T1 ++ T2) F := by
  induction h with
  | nil p => exact h2.perm p.symm
  | put _ ih => exact .put (ih h2)
  | take p l _ ih => exact .take p l (ih h2)
theorem Run.later {Q R T F z} (h : Run Q R T F) (hz : z ∈ Q) (hf : z ∉ F) : z ∈ T :=
  (List.mem_append.mp (h.all.subset (List.mem_append_left _ hz))).elim id fun h => absurd h hf
/-- what is taken between a bridge and a place with no bridge behind it is no more than something that is taken later -/
theorem Run.low {Q P T1 Qp} (h1 : Run Q P T1 Qp) : ∀ {R T2 F}, Run Qp R T2 F → (∀ A B Qm Tm, P = A ++ B → A ≠ [] → Run Q A Tm Qm → ∃ z, z ∈ Qm ∧ z ∉ F) → ∀ t, t ∈ T1 → ∃ z, z ∈ T2 ∧ t ≤ z := by
  induction h1 with
  | nil p => exact fun _ _ t ht => nomatch ht
  | put _ ih => exact fun h2 nb => ih h2 fun A B Qm Tm e _ h => nb (_ :: A) B Qm Tm (congrArg _ e) (List.cons_ne_nil _ _) (.put h)
  | @take Q Q1 P T1 Qp m p l h ih =>
    intro R T2 F h2 nb t ht
    have ih := ih h2 fun A B Qm Tm e _ h => nb (_ :: A) B Qm (m :: Tm) (congrArg _ e) (List.cons_ne_nil _ _) (.take p l h)
    rcases List.mem_cons.mp ht with rfl | ht
    · obtain ⟨z, z1, z2⟩ := nb [none] P Q1 [t] rfl (List.cons_ne_nil _ _) (.take p l (.nil (List.Perm.refl _)))
      have tz := l z (p.symm.subset (.tail _ z1))
      rcases List.mem_append.mp ((h.app h2).later z1 z2) with c | c
      · obtain ⟨u, u1, u2⟩ := ih z c
        exact ⟨u, u1, Nat.le_trans tz u2⟩
      · exact ⟨z, c, tz⟩
    · exact ih t ht
/-- of two that are held, the less one goes first -/
theorem Run.first {Q R T F y z} (h : Run Q R T F) : y ∈ Q → z ∈ Q → y < z → y ∉ T → z ∉ T := by
  induction h with
  | nil p => exact fun _ _ _ _ => List.not_mem_nil
  | put _ ih => exact fun a b => ih (.tail _ a) (.tail _ b)
  | take p l _ ih =>
    intro a b c d
    have zm : z ≠ _ := fun e => absurd c (Nat.not_lt_of_le (Eq.symm e ▸ l y a))
    have a' := (List.mem_cons.mp (p.subset a)).resolve_left fun e => d (e ▸ .head _)
    have b' := (List.mem_cons.mp (p.subset b)).resolve_left zm
    exact fun h => (List.mem_cons.mp h).elim zm (ih a' b' c fun h => d (.tail _ h))
/-- one less is held, which is never taken -/
theorem Run.same {Q R T F y} (h : Run Q R T F) : ∀ {Q' T' F'}, Q.Perm (y :: Q') → Run Q' R T' F' → y ∉ T → F.Perm (y :: F') := by
  induction h with
  | nil p =>
    intro Q' T' F' q h' _
    cases h' with
    | nil p' => exact p.symm.trans (q.trans (p'.cons _))
  | put _ ih =>
    intro Q' T' F' q h' hy
    cases h' with
    | put h' => exact ih ((q.cons _).trans (List.Perm.swap ..)) h' hy
  | @take Q Q1 R T F m p l _ ih =>
    intro Q' T' F' q h' hy
    cases h' with
    | @take _ Q1' _ T1' _ m' p' l' h' =>
      have ne : m ≠ y := fun e => hy (e ▸ .head _)
      have mm : m ∈ Q' := (List.mem_cons.mp (q.subset (p.symm.subset (.head _)))).resolve_left ne
      have e : m' = m := Nat.le_antisymm (l' _ mm) (l _ (q.symm.subset (.tail _ (p'.symm.subset (.head _)))))
      subst e
      exact ih (perm_two (p.symm.trans (q.trans (p'.cons _)))) h' fun h => hy (.tail _ h)
/-- one less is held: there lacks what is the least at the first bridge -/
theorem Run.down {R F F'} : ∀ {R1 Q Q' T T' y}, Run Q (R1 ++ R) T F → Run Q' (R1 ++ R) T' F' → Q.Perm (y :: Q') → (Q ++ lays (R1 ++ R)).Nodup → (y ∈ F → ∀ z, z ∈ Q → y ≤ z) →
    (∀ A B Qm Tm, R1 = A ++ B → B ≠ [] → Run Q A Tm Qm → ∃ z, z ∈ Qm ∧ z ∉ F) → (∀ Qm Tm, Run Q R1 Tm Qm → ∀ z, z ∈ Qm → z ∈ F) →
    ∃ y' Qm Tm, F.Perm (y' :: F') ∧ Run Q R1 Tm Qm ∧ y' ∈ Qm ∧ ∀ z, z ∈ Qm → y' ≤ z := by
  intro R1
  induction R1 with
  | nil =>
    intro Q Q' T T' y h h' q nd hy _ br
    have b := br Q [] (.nil (List.Perm.refl _))
    have yq : y ∈ Q := q.symm.subset (.head _)
    have dj := List.nodup_append.mp (h.all.nodup nd)
    exact ⟨y, Q, [], h.same q h' (fun c => dj.2.2 y c y (b y yq) rfl), .nil (List.Perm.refl _), yq, hy (b y yq)⟩
  | cons o R1 ih =>
    intro Q Q' T T' y h h' q nd hy nb br
    obtain ⟨z, z1, z2⟩ := nb [] (o :: R1) Q [] rfl (List.cons_ne_nil _ _) (.nil (List.Perm.refl _))
    have yq : y ∈ Q := q.symm.subset (.head _)
    have dj := List.nodup_append.mp (h.all.nodup nd)
    have yF : y ∉ F := fun c => by
      have le := hy c z z1
      have lt := Nat.lt_of_le_of_ne le fun e => z2 (e ▸ c)
      exact h.first yq z1 lt (fun c' => dj.2.2 y c' y c rfl) (h.later z1 z2)
    cases h with
    | put h =>
      cases h' with
      | put h' =>
        obtain ⟨y', Qm, Tm, a, b, c⟩ := ih h h' ((q.cons _).trans (List.Perm.swap ..)) (List.perm_middle.nodup nd) (fun c => absurd c yF)
          (fun A B Qm Tm e n r => nb (_ :: A) B Qm Tm (congrArg _ e) n (.put r)) (fun Qm Tm r => br Qm Tm (.put r))
        exact ⟨y', Qm, Tm, a, .put b, c⟩
    | @take _ Q1 _ T1 _ m p l h =>
      cases h' with
      | @take _ Q1' _ T1' _ m' p' l' h' =>
        have nd1 := (List.nodup_cons.mp ((p.append_right _).nodup nd)).2
        have nb1 := fun A B Qm Tm e n r => nb (none :: A) B Qm (m :: Tm) (congrArg _ e) n (.take p l r)
        have br1 := fun Qm Tm r => br Qm (m :: Tm) (.take p l r)
        rcases Classical.em (m = y) with e | ne
        · subst e
          have q1 : Q1.Perm Q' := perm_drop (p.symm.trans q)
          obtain ⟨y', Qm, Tm, a, b, c⟩ := ih h h' (q1.trans p') nd1 (fun _ z hz => l' z (q1.subset hz)) nb1 br1
          exact ⟨y', Qm, m :: Tm, a, .take p l b, c⟩
        · have mm : m ∈ Q' := (List.mem_cons.mp (q.subset (p.symm.subset (.head _)))).resolve_left ne
          have e : m' = m := Nat.le_antisymm (l' _ mm) (l _ (q.symm.subset (.tail _ (p'.symm.subset (.head _)))))
          subst e
          obtain ⟨y', Qm, Tm, a, b, c⟩ := ih h h' (perm_two (p.symm.trans (q.trans (p'.cons _)))) nd1 (fun c => absurd c yF) nb1 br1
          exact ⟨y', Qm, _ :: Tm, a, .take p l b, c⟩
/-- the count at a place: how many are held that don't stay -/
noncomputable def stepO (F : List Nat) : Option Nat → Int
  | none => -1
  | some e => if e ∈ F then 0 else 1
noncomputable def cntO (F : List Nat) (P : List (Option Nat)) : Int := (P.map (stepO F)).sum
theorem cntO_eq {F : List Nat} : ∀ P, cntO F P + ((P.filter fun o => o.isNone).length : Int) = (((lays P).filter fun z => !decide (z ∈ F)).length : Int)
  | [] => rfl
  | none :: P => by
    have := cntO_eq (F := F) P
    have e1 : cntO F (none :: P) = -1 + cntO F P := rfl
    have e2 : ((none :: P).filter fun o : Option Nat => o.isNone).length = (P.filter fun o => o.isNone).length + 1 := rfl
    have e3 : lays (none :: P) = lays P := rfl
    rw [e1, e2, e3]
    lia
  | some e :: P => by
    have := cntO_eq (F := F) P
    have e1 : cntO F (some e :: P) = (if e ∈ F then 0 else 1) + cntO F P := rfl
    have e2 : ((some e :: P).filter fun o : Option Nat => o.isNone).length = (P.filter fun o => o.isNone).length := rfl
    have e3 : lays (some e :: P) = e :: lays P := rfl
    rw [e1, e2, e3, List.filter_cons]
    by_cases h : e ∈ F
    · simp only [h, if_true, decide_true, Bool.not_true, Bool.false_eq_true, if_false]; lia
    · simp only [h, if_false, decide_false, Bool.not_false, if_true, List.length_cons]; lia
theorem Run.cnt {P R T1 T2 Q F} (h1 : Run [] P T1 Q) (h2 : Run Q R T2 F) (nd : (lays (P ++ R)).Nodup) : cntO F P = 0 ↔ ∀ z, z ∈ Q → z ∈ F := by
  have e := cntO_eq (F := F) P
  have a : (lays P).Perm (T1 ++ Q) := h1.all
  have dj := List.nodup_append.mp ((h1.app h2).all.nodup (show ([] ++ lays (P ++ R)).Nodup from nd))
  have t1 : T1.filter (fun z => !decide (z ∈ F)) = T1 := List.filter_eq_self.mpr fun z hz => by
    have : z ∉ F := fun c => dj.2.2 z (List.mem_append_left _ hz) z c rfl
    simp only [this, decide_false, Bool.not_false]
  rw [(a.filter _).length_eq, List.filter_append, t1, List.length_append, ← h1.takes] at e
  have : cntO F P = 0 ↔ (Q.filter fun z => !decide (z ∈ F)).length = 0 := by lia
  rw [this, List.length_eq_zero_iff, List.filter_eq_nil_iff]
  refine forall_congr' fun z => ⟨fun h hz => ?_, fun h hz => ?_⟩
  · have := h hz
    simpa using this
  · simp only [h hz, decide_true, Bool.not_true, Bool.false_eq_true, not_false_eq_true]
end Mine
set_option maxRecDepth 100000
set_option maxHeartbeats 2000000
namespace Mine
open PySem PySem.W PyProof.Rows PySem.Calls

theorem Run.det {Q R T F} (h : Run Q R T F) : ∀ {Q' T' F'}, Q'.Perm Q → Run Q' R T' F' → F'.Perm F := by
  induction h with
  | nil p =>
    intro Q' T' F' q h'
    cases h' with
    | nil p' => exact p'.symm.trans (q.trans p)
  | put _ ih =>
    intro Q' T' F' q h'
    cases h' with
    | put h' => exact ih (q.cons _) h'
  | @take Q Q1 R T F m p l _ ih =>
    intro Q' T' F' q h'
    cases h' with
    | @take _ Q1' _ T1' _ m' p' l' h' =>
      have e : m' = m := Nat.le_antisymm (l' _ (q.symm.subset (p.symm.subset (.head _)))) (l _ (q.subset (p'.symm.subset (.head _))))
      subst e
      exact ih (perm_drop (p'.symm.trans (q.trans p))) h'
theorem Run.dj {Q R T F} (h : Run Q R T F) (nd : (Q ++ lays R).Nodup) {z : Nat} (ht : z ∈ T) : z ∉ F := fun c => (List.nodup_append.mp (h.all.nodup nd)).2.2 z ht z c rfl
/-- no bridge: something that is held goes -/
theorem Run.nobr {P R T1 T2 Q F} (h1 : Run [] P T1 Q) (h2 : Run Q R T2 F) (nd : (lays (P ++ R)).Nodup) (h : cntO F P ≠ 0) : ∃ z, z ∈ Q ∧ z ∉ F := by
  have := fun c => h ((h1.cnt h2 nd).mpr c)
  refine Classical.byContradiction fun hn => this fun z hz => Classical.byContradiction fun hf => hn ⟨z, hz, hf⟩
theorem Run.next {P A R T1 T2 Q F Qm Tm} (h1 : Run [] P T1 Q) (h2 : Run Q (A ++ R) T2 F) (h : Run Q A Tm Qm) : ∃ T', Run [] (P ++ A) (T1 ++ Tm) Qm ∧ Run Qm R T' F := by
  obtain ⟨Qm', T3, T4, _, a, b⟩ := h2.split
  exact ⟨T4, h1.app h, b.perm (a.det (List.Perm.refl _) h).symm⟩
theorem take_len {α : Type} {A B : List α} {j : Nat} (h : j ≤ B.length) : (A ++ B).take (A.length + j) = A ++ B.take j := by
  rw [List.take_append, List.take_of_length_le (Nat.le_add_right _ _), Nat.add_sub_cancel_left]
/-- the candidates of a coming: those laid behind the last bridge that don't stay -/
theorem Run.candUp {P R T1 T2 Qp F b} (h1 : Run [] P T1 Qp) (h2 : Run Qp R T2 F) (nd : (lays (P ++ R)).Nodup) (hb : b ≤ P.length) (c0 : cntO F (P.take b) = 0) (cn : ∀ j, b < j → j ≤ P.length → cntO F (P.take j) ≠ 0) :
    (∀ u, u ∈ T2 → u ∈ lays ((P ++ R).drop b) ∧ u ∉ F) ∧ ∀ z, z ∈ lays ((P ++ R).drop b) → z ∉ F → ∃ u, u ∈ T2 ∧ z ≤ u := by
  have eP := List.take_append_drop b P
  obtain ⟨Qb, Ta, Tb, eT, ha, hB⟩ := Run.split (P := P.take b) (R := P.drop b) (eP.symm ▸ h1)
  have hBR := hB.app h2
  have hd : (P ++ R).drop b = P.drop b ++ R := by rw [List.drop_append_of_le_length hb]
  have eS : P.take b ++ (P.drop b ++ R) = P ++ R := by rw [← List.append_assoc, eP]
  have br := (ha.cnt hBR (eS.symm ▸ nd)).mp c0
  have ndB : (Qb ++ lays (P.drop b ++ R)).Nodup := by
    have := nd
    rw [← eS, lays, List.filterMap_append] at this
    have q := (ha.all.append_right (lays (P.drop b ++ R))).nodup this
    rw [List.append_assoc] at q
    exact (List.nodup_append.mp q).2.1
  rw [hd]
  refine ⟨fun u hu => ?_, fun z hz hf => ?_⟩
  · have uF := hBR.dj ndB (List.mem_append_right _ hu)
    exact ⟨(List.mem_append.mp (hBR.all.symm.subset (List.mem_append_left _ (List.mem_append_right _ hu)))).resolve_left fun c => uF (br u c), uF⟩
  · rcases List.mem_append.mp ((List.mem_append.mp (hBR.all.subset (List.mem_append_right _ hz))).resolve_right hf) with c | c
    · refine hB.low h2 (fun A B Qm Tm e ne r => ?_) z c
      have hBA := hBR
      rw [e, List.append_assoc] at hBA
      obtain ⟨T', r1, r2⟩ := ha.next hBA r
      have eA : P.take b ++ A ++ (B ++ R) = P ++ R := by rw [← eS, e, List.append_assoc, List.append_assoc]
      have eL : P.take (b + A.length) = P.take b ++ A := by
        conv => lhs; rw [← eP, e, ← List.append_assoc]
        rw [show b + A.length = (P.take b ++ A).length by rw [List.length_append, List.length_take, Nat.min_eq_left hb], List.take_left]
      have lA : A.length ≠ 0 := fun h => ne (List.length_eq_zero_iff.mp h)
      have lB : b + A.length ≤ P.length := by
        have := congrArg List.length e
        rw [List.length_drop, List.length_append] at this
        lia
      exact r1.nobr r2 (eA.symm ▸ nd) (eL ▸ cn (b + A.length) (by lia) lB)
    · exact ⟨z, c, Nat.le_refl _⟩
/-- the candidates of a going: those laid before the next bridge that stay -/
theorem Run.candDown {P R R' T1 T2 T' Q Q' F F' y e} (h1 : Run [] P T1 Q) (h2 : Run Q R T2 F) (h' : Run Q' R T' F') (q : Q.Perm (y :: Q')) (nd : (lays (P ++ R)).Nodup) (hy : y ∈ F → ∀ z, z ∈ Q → y ≤ z) (eR : R' = P ++ R) (he : P.length ≤ e) (hl : e ≤ R'.length) (c0 : cntO F (R'.take e) = 0) (cn : ∀ j, P.length ≤ j → j < e → cntO F (R'.take j) ≠ 0) :
    ∃ y', F.Perm (y' :: F') ∧ y' ∈ lays (R'.take e) ∧ ∀ z, z ∈ lays (R'.take e) → z ∈ F → y' ≤ z := by
  subst eR
  obtain ⟨k, rfl⟩ := Nat.exists_eq_add_of_le he
  have hk : k ≤ R.length := by rw [List.length_append] at hl; lia
  have eR := List.take_append_drop k R
  rw [take_len hk] at c0 ⊢
  have h2' : Run Q (R.take k ++ R.drop k) T2 F := eR.symm ▸ h2
  have ndS : ∀ A B, A ++ B = R → (lays (P ++ A ++ B)).Nodup := fun A B e => by rw [List.append_assoc, e]; exact nd
  have ndQ : (Q ++ lays R).Nodup := by
    have := nd
    rw [lays, List.filterMap_append] at this
    have q := (h1.all.append_right (lays R)).nodup this
    rw [List.append_assoc] at q
    exact (List.nodup_append.mp q).2.1
  have nb : ∀ A B Qm Tm, R.take k = A ++ B → B ≠ [] → Run Q A Tm Qm → ∃ z, z ∈ Qm ∧ z ∉ F := fun A B Qm Tm eA ne r => by
    have hA : Run Q (A ++ (B ++ R.drop k)) T2 F := by rw [← List.append_assoc, ← eA]; exact h2'
    obtain ⟨T3, r1, r2⟩ := h1.next hA r
    have lB : B.length ≠ 0 := fun h => ne (List.length_eq_zero_iff.mp h)
    have eL := congrArg List.length eA
    rw [List.length_take, Nat.min_eq_left hk, List.length_append] at eL
    have eP : (P ++ R).take (P.length + A.length) = P ++ A := by
      rw [take_len (by lia), ← eR, eA, List.append_assoc, List.take_left]
    exact r1.nobr r2 (ndS _ _ (by rw [← List.append_assoc, ← eA, eR])) (eP ▸ cn (P.length + A.length) (Nat.le_add_right _ _) (by lia))
  have br : ∀ Qm Tm, Run Q (R.take k) Tm Qm → ∀ z, z ∈ Qm → z ∈ F := fun Qm Tm r => by
    obtain ⟨T3, r1, r2⟩ := h1.next h2' r
    exact (r1.cnt r2 (ndS _ _ eR)).mp c0
  obtain ⟨y', Qm, Tm, a, b, c, d⟩ := Run.down h2' (eR.symm ▸ h') q (eR.symm ▸ ndQ) hy nb br
  obtain ⟨T3, r1, r2⟩ := h1.next h2' b
  have br := (r1.cnt r2 (ndS _ _ eR)).mp c0
  have ndA : (lays (P ++ R.take k)).Nodup := by
    have := ndS _ _ eR
    rw [lays, List.filterMap_append] at this
    exact (List.nodup_append.mp this).1
  refine ⟨y', a, r1.all.symm.subset (List.mem_append_right _ c), fun z hz hf => ?_⟩
  have := List.mem_append.mp (r1.all.subset (show z ∈ [] ++ lays (P ++ R.take k) from hz))
  refine d z (this.resolve_left fun ht => ?_)
  have := (r1.app r2).dj (show ([] ++ lays (P ++ R.take k ++ R.drop k)).Nodup from ndS _ _ eR) (List.mem_append_left _ ht)
  exact this hf
end Mine
set_option maxRecDepth 100000
set_option maxHeartbeats 2000000
namespace Mine
open PySem PySem.W PyProof.Rows PySem.Calls

theorem mem_br {z : List (Row × Bool)} {n : Nat} {i : Int} : i ∈ bridgesL z n ↔ ∃ j : Nat, i = (j : Int) ∧ j ≤ n ∧ cntAt z j = 0 := by
  unfold bridgesL
  rw [List.mem_cons, List.mem_map]
  constructor
  · rintro (rfl | ⟨j, h, rfl⟩)
    · exact ⟨0, rfl, Nat.zero_le _, rfl⟩
    · rw [List.mem_filter, List.mem_range, decide_eq_true_eq] at h
      exact ⟨j + 1, rfl, h.1, h.2⟩
  · rintro ⟨j, rfl, h, e⟩
    cases j with
    | zero => exact .inl rfl
    | succ j => exact .inr ⟨j, by rw [List.mem_filter, List.mem_range, decide_eq_true_eq]; exact ⟨h, e⟩, rfl⟩
theorem br_sorted {z : List (Row × Bool)} {n : Nat} : (bridgesL z n).Pairwise (· < ·) := by
  unfold bridgesL
  refine List.pairwise_cons.mpr ⟨fun a ha => ?_, ?_⟩
  · obtain ⟨j, _, rfl⟩ := List.mem_map.mp ha
    exact Int.natCast_pos.mpr (Nat.succ_pos _)
  · rw [List.pairwise_map]
    exact (List.pairwise_lt_range.filter _).imp fun h => Int.ofNat_lt.mpr (Nat.succ_lt_succ h)
theorem begin_spec {z : List (Row × Bool)} {p : Nat} (hp : p ≤ z.length) {b : Nat} (e : b = beginOf (bridgesL z z.length) p) : b ≤ p ∧ cntAt z b = 0 ∧ ∀ j, b < j → j ≤ p → cntAt z j ≠ 0 := by
  have h0 : (0 : Int) ∈ (bridgesL z z.length).filter fun i => decide (i ≤ (p : Int)) := List.mem_filter.mpr ⟨.head _, decide_eq_true (Int.natCast_nonneg _)⟩
  have hm := maxI_in h0
  obtain ⟨h1, h2⟩ := List.mem_filter.mp hm
  obtain ⟨k, k1, _, k3⟩ := mem_br.mp h1
  have eb : b = k := by rw [e]; show (maxI _).toNat = k; rw [k1]; rfl
  have := of_decide_eq_true h2
  rw [k1] at this
  subst eb
  refine ⟨Int.ofNat_le.mp this, k3, fun j h3 h4 h5 => ?_⟩
  have := maxI_ge (l := (bridgesL z z.length).filter fun i => decide (i ≤ (p : Int))) (List.mem_filter.mpr ⟨mem_br.mpr ⟨j, rfl, Nat.le_trans h4 hp, h5⟩, decide_eq_true (Int.ofNat_le.mpr h4)⟩)
  rw [k1] at this
  exact absurd h3 (Nat.not_lt_of_le (Int.ofNat_le.mp this))
theorem end_spec {z : List (Row × Bool)} {lo : Nat} (hl : lo ≤ z.length) (hz : cntAt z z.length = 0) {e : Nat} (he : e = endOf (bridgesL z z.length) lo) : lo ≤ e ∧ e ≤ z.length ∧ cntAt z e = 0 ∧ ∀ j, lo ≤ j → j < e → cntAt z j ≠ 0 := by
  have hm : ((z.length : Nat) : Int) ∈ (bridgesL z z.length).filter fun i => decide (i ≥ (lo : Int)) := List.mem_filter.mpr ⟨mem_br.mpr ⟨_, rfl, Nat.le_refl _, hz⟩, decide_eq_true (Int.ofNat_le.mpr hl)⟩
  have hs := (br_sorted (z := z) (n := z.length)).filter fun i => decide (i ≥ (lo : Int))
  unfold endOf at he
  cases hb : (bridgesL z z.length).filter fun i => decide (i ≥ (lo : Int)) with
  | nil => rw [hb] at hm; cases hm
  | cons x l =>
    rw [hb] at he hs
    have hx : x ∈ (bridgesL z z.length).filter fun i => decide (i ≥ (lo : Int)) := by rw [hb]; exact .head _
    obtain ⟨h1, h2⟩ := List.mem_filter.mp hx
    obtain ⟨k, rfl, k2, k3⟩ := mem_br.mp h1
    have e1 : e = k := he
    subst e1
    refine ⟨Int.ofNat_le.mp (of_decide_eq_true h2), k2, k3, fun j j1 j2 j3 => ?_⟩
    have : (j : Int) ∈ (e : Int) :: l := hb ▸ List.mem_filter.mpr ⟨mem_br.mpr ⟨j, rfl, Nat.le_trans (Nat.le_of_lt j2) k2, j3⟩, decide_eq_true (Int.ofNat_le.mpr j1)⟩
    rcases List.mem_cons.mp this with c | c
    · exact absurd j2 (Int.ofNat.inj c ▸ Nat.lt_irrefl _)
    · exact absurd j2 (Nat.not_lt_of_lt (Int.ofNat_lt.mp ((List.pairwise_cons.mp hs).1 _ c)))

/-! deeds as ranks -/
noncomputable def hOf (d : Dd) : Hh := (d.2.2.toNat, d.1, d.2.1)
noncomputable def encO (d : Dd) : Option Nat := if d.2.2 < 0 then none else some (rkH (hOf d))
theorem leftR_run : ∀ (ds : List Dd) (held F : List Hh), leftR held ds = some F → ∃ T, Run (held.map rkH) (ds.map encO) T (F.map rkH)
  | [], held, F, h => by
    cases h
    exact ⟨[], .nil (List.Perm.refl _)⟩
  | d :: ds, held, F, h => by
    unfold leftR at h
    split at h
    · cases h
    · rename_i hn
      obtain ⟨T, r⟩ := leftR_run ds _ F h
      unfold heldStep at r
      by_cases c : d.2.2 < 0
      · rw [if_pos c] at r
        have ee : encO d = none := if_pos c
        rw [List.map_cons, ee]
        cases hm : minBy rkH held with
        | none => exact absurd ⟨c, minBy_none hm⟩ hn
        | some m =>
          rw [hm] at r
          obtain ⟨h1, h2⟩ := minBy_spec hm
          exact ⟨_, .take ((List.perm_cons_erase h1).map rkH) (fun x hx => by
            obtain ⟨y, hy, rfl⟩ := List.mem_map.mp hx
            exact h2 y hy) r⟩
      · rw [if_neg c] at r
        have ee : encO d = some (rkH (hOf d)) := if_neg c
        rw [List.map_cons, ee]
        rw [List.map_append] at r
        exact ⟨_, .put (r.perm List.perm_append_comm)⟩
theorem leftR_from : ∀ (ds : List Dd) (held F : List Hh), leftR held ds = some F → ∀ h, h ∈ F → h ∈ held ∨ ∃ d, d ∈ ds ∧ ¬ d.2.2 < 0 ∧ h = hOf d
  | [], held, F, e, h, hh => by
    cases e
    exact .inl hh
  | d :: ds, held, F, e, h, hh => by
    unfold leftR at e
    split at e
    · cases e
    · rcases leftR_from ds _ F e h hh with c | ⟨d', a, b⟩
      · unfold heldStep at c
        split at c
        · split at c
          · exact .inl c
          · exact .inl (List.mem_of_mem_erase c)
        · rename_i hc
          rcases List.mem_append.mp c with c | c
          · exact .inl c
          · exact .inr ⟨d, .head _, hc, List.mem_singleton.mp c⟩
      · exact .inr ⟨d', .tail _ a, b⟩
theorem mem_lays {e : Nat} {ds : List Dd} : e ∈ lays (ds.map encO) ↔ ∃ d, d ∈ ds ∧ ¬ d.2.2 < 0 ∧ e = rkH (hOf d) := by
  rw [lays, List.filterMap_map, List.mem_filterMap]
  refine exists_congr fun d => and_congr_right fun _ => ?_
  show encO d = some e ↔ _
  unfold encO
  split
  · rename_i h; exact ⟨nofun, fun c => absurd h c.1⟩
  · rename_i h; exact ⟨fun c => ⟨h, (Option.some.inj c).symm⟩, fun c => congrArg some c.2.symm⟩
theorem rkH_place {d : Dd} (h : d.2.1 < 64) : rkH (hOf d) % 64 = d.2.1 := by
  show ((_ * 16 + _) * 64 + d.2.1) % 64 = d.2.1
  rw [Nat.add_comm, Nat.add_mul_mod_self_right, Nat.mod_eq_of_lt h]
end Mine
set_option maxRecDepth 100000
set_option maxHeartbeats 2000000
namespace Mine
open PySem PySem.W PyProof.Rows PySem.Calls

theorem DdOk.perm {ds es : List Dd} (h : DdOk ds) (p : ds.Perm es) : DdOk es := ⟨fun d hd => h.small d (p.symm.subset hd), (p.map _).nodup h.nd, p.length_eq ▸ h.len⟩
theorem DdOk.lays {ds : List Dd} (h : DdOk ds) : (lays (ds.map encO)).Nodup := by
  have := h.nd
  rw [List.Nodup, List.pairwise_map] at this
  rw [Mine.lays, List.filterMap_map, List.Nodup, List.pairwise_filterMap]
  refine this.imp_of_mem fun {a b} ha hb ne x hx y hy e => ne ?_
  have f : ∀ {d : Dd} {x : Nat}, d ∈ ds → (id ∘ encO) d = some x → x % 64 = d.2.1 := fun {d x} hd hx => by
    obtain ⟨d', a, b, c⟩ := mem_lays.mp (show x ∈ Mine.lays ([d].map encO) by rw [Mine.lays, List.filterMap_map, List.mem_filterMap]; exact ⟨d, .head _, hx⟩)
    rw [List.mem_singleton.mp a] at c
    rw [c, rkH_place (h.small d hd).2.1]
  rw [← f ha hx, ← f hb hy, e]
/-- a deed comes into the order -/
theorem ins {ds : List Dd} {d : Dd} (h : DdOk (d :: ds)) : ∃ P R, sortBy rkD ds = P ++ R ∧ (∀ X : List Dd, X.Perm (d :: ds) → sortBy rkD X = P ++ d :: R) ∧ (∀ x, x ∈ P → rkD x < rkD d) ∧ ∀ x, x ∈ R → rkD d < rkD x := by
  have nd := h.rk
  rw [List.map_cons, List.nodup_cons] at nd
  have hs := sortBy_sorted (rk := rkD) (xs := ds)
  have hp := sortBy_perm (rk := rkD) (xs := ds)
  have a : ∀ x, x ∈ (sortBy rkD ds).filter (fun x => decide (rkD x < rkD d)) → rkD x < rkD d := fun x hx => of_decide_eq_true (List.mem_filter.mp hx).2
  have b : ∀ x, x ∈ (sortBy rkD ds).filter (fun x => !decide (rkD x < rkD d)) → rkD d < rkD x := fun x hx => by
    obtain ⟨h1, h2⟩ := List.mem_filter.mp hx
    have ne : rkD d ≠ rkD x := fun e => nd.1 (e ▸ List.mem_map_of_mem (hp.subset h1))
    have : ¬ rkD x < rkD d := by simpa using h2
    exact Nat.lt_of_le_of_ne (Nat.le_of_not_lt this) ne
  have pm : ((sortBy rkD ds).filter (fun x => decide (rkD x < rkD d)) ++ (sortBy rkD ds).filter (fun x => !decide (rkD x < rkD d))).Perm ds := (List.filter_append_perm _ _).trans hp
  refine ⟨_, _, (sortBy_unique pm (List.pairwise_append.mpr ⟨hs.filter _, hs.filter _, fun x hx y hy => Nat.le_of_lt (Nat.lt_trans (a x hx) (b y hy))⟩) nd.2).symm, fun X hX => (sortBy_unique (List.perm_middle.trans ((pm.cons d).trans hX.symm)) (List.pairwise_append.mpr ⟨hs.filter _, List.pairwise_cons.mpr ⟨fun y hy => Nat.le_of_lt (b y hy), hs.filter _⟩, fun x hx y hy => ?_⟩) ?_).symm, a, b⟩
  · rcases List.mem_cons.mp hy with rfl | hy
    · exact Nat.le_of_lt (a x hx)
    · exact Nat.le_of_lt (Nat.lt_trans (a x hx) (b y hy))
  · exact (h.perm hX.symm).rk
section
variable {α β : Type} {rk : α → Nat} {rk' : β → Nat}
theorem sort_map {f : α → β} {ds : List α} (h : ∀ d, d ∈ ds → rk' (f d) = rk d) (nd : (ds.map rk).Nodup) : sortBy rk' (ds.map f) = (sortBy rk ds).map f := by
  have hp := sortBy_perm (rk := rk) (xs := ds)
  refine (sortBy_unique (hp.map f) ?_ ?_).symm
  · rw [List.pairwise_map]
    exact sortBy_sorted.imp_of_mem fun {a b} ha hb c => by rw [h a (hp.subset ha), h b (hp.subset hb)]; exact c
  · rw [List.map_map, show ds.map (rk' ∘ f) = ds.map rk from List.map_congr_left h]
    exact nd
theorem sort_last {rows : List α} {r : α} (nd : (rows.map rk).Nodup) (hr : r ∈ rows) (h : ∀ x, x ∈ rows → rk x ≤ rk r) : lastOne (sortBy rk rows) = [r] := by
  have hp := sortBy_perm (rk := rk) (xs := rows)
  have hs := sortBy_sorted (rk := rk) (xs := rows)
  rcases List.eq_nil_or_concat (sortBy rk rows) with e | ⟨l, x, e⟩
  · rw [e] at hp; exact absurd (hp.symm.subset hr) List.not_mem_nil
  · rw [List.concat_eq_append] at e
    rw [e] at hp hs ⊢
    have hx : x ∈ rows := hp.subset (List.mem_append_right _ (.head _))
    have : r = x := by
      rcases List.mem_append.mp (hp.symm.subset hr) with c | c
      · exact nodup_inj nd hr hx (Nat.le_antisymm ((List.pairwise_append.mp hs).2.2 r c x (.head _)) (h x hx))
      · exact List.mem_singleton.mp c
    unfold lastOne
    rw [List.length_append, List.length_singleton, Nat.add_sub_cancel, List.drop_left, this]
theorem sort_head {rows : List α} {r : α} (nd : (rows.map rk).Nodup) (hr : r ∈ rows) (h : ∀ x, x ∈ rows → rk r ≤ rk x) : (sortBy rk rows).take 1 = [r] := by
  have hp := sortBy_perm (rk := rk) (xs := rows)
  have hs := sortBy_sorted (rk := rk) (xs := rows)
  cases e : sortBy rk rows with
  | nil => rw [e] at hp; exact absurd (hp.symm.subset hr) List.not_mem_nil
  | cons x l =>
    rw [e] at hp hs
    have hx : x ∈ rows := hp.subset (.head _)
    have : r = x := by
      rcases List.mem_cons.mp (hp.symm.subset hr) with c | c
      · exact c
      · exact nodup_inj nd hr hx (Nat.le_antisymm (h x hx) ((List.pairwise_cons.mp hs).1 r c))
    rw [this]; rfl
end
noncomputable def decH (n : Nat) : Hh := (n / 1024, n / 64 % 16, n % 64)
theorem decH_rk {h : Hh} (h1 : h.2.1 < 16) (h2 : h.2.2 < 64) : decH (rkH h) = h := by
  obtain ⟨a, b, c⟩ := h
  simp only [decH, rkH] at *
  refine Prod.ext ?_ (Prod.ext ?_ ?_) <;> simp only <;> omega
theorem perm_back {l m : List Hh} (hl : ∀ h, h ∈ l → h.2.1 < 16 ∧ h.2.2 < 64) (hm : ∀ h, h ∈ m → h.2.1 < 16 ∧ h.2.2 < 64) (p : (l.map rkH).Perm (m.map rkH)) : l.Perm m := by
  have q := p.map decH
  have e : ∀ l : List Hh, (∀ h, h ∈ l → h.2.1 < 16 ∧ h.2.2 < 64) → (l.map rkH).map decH = l := fun l hl => by
    rw [List.map_map]
    conv => rhs; rw [← List.map_id l]
    exact List.map_congr_left fun h hh => decH_rk (hl h hh).1 (hl h hh).2
  rw [e l hl, e m hm] at q
  exact q
/-! the pairs that the law tells -/
theorem new_come {q now : List Row} {g : Row} (p : now.Perm (g :: q)) (nd : (g :: q).Nodup) : newPairs q now = q ++ [g] := by
  have h1 : goneP q now = [] := List.filter_eq_nil_iff.mpr fun x hx => by
    have := p.symm.subset (List.mem_cons_of_mem _ hx)
    simp only [this, decide_true, Bool.not_true, Bool.false_eq_true, not_false_eq_true]
  have h2 : (now.filter fun x => !decide (x ∈ q)) = [g] := by
    refine List.perm_singleton.mp ((p.filter _).trans ?_)
    rw [List.filter_cons, if_pos (by have := (List.nodup_cons.mp nd).1; simp only [this, decide_false, Bool.not_false])]
    rw [List.filter_eq_nil_iff.mpr fun x hx => by simp only [hx, decide_true, Bool.not_true, Bool.false_eq_true, not_false_eq_true]]
  have h3 : ∀ x : Row, decide (x.1 ∈ (([] : List Row).map (·.1))) = false := fun x => rfl
  unfold newPairs
  rw [h1, h2]
  rw [List.filter_eq_self.mpr fun x _ => by rw [h3]; rfl, List.filter_eq_nil_iff.mpr fun x _ => by rw [h3]; exact Bool.false_ne_true, List.append_nil]
noncomputable def wentP (q : List Row) (g : Row) : List Row := q.filter (fun x => !decide (x.1 = g.1)) ++ q.filter fun x => decide (x.1 = g.1) && !decide (x = g)
theorem new_gone {q now : List Row} {g : Row} (p : q.Perm (g :: now)) (nd : (g :: now).Nodup) : newPairs q now = wentP q g := by
  have h1 : goneP q now = [g] := by
    refine List.perm_singleton.mp ((p.filter _).trans ?_)
    rw [List.filter_cons, if_pos (by have := (List.nodup_cons.mp nd).1; simp only [this, decide_false, Bool.not_false])]
    rw [List.filter_eq_nil_iff.mpr fun x hx => by simp only [hx, decide_true, Bool.not_true, Bool.false_eq_true, not_false_eq_true]]
  have h2 : (now.filter fun x => !decide (x ∈ q)) = [] := List.filter_eq_nil_iff.mpr fun x hx => by
    have := p.symm.subset (List.mem_cons_of_mem _ hx)
    simp only [this, decide_true, Bool.not_true, Bool.false_eq_true, not_false_eq_true]
  have h3 : ∀ x : Row, decide (x.1 ∈ ([g].map (·.1))) = decide (x.1 = g.1) := fun x => decide_eq_decide.mpr (by rw [List.map_singleton, List.mem_singleton])
  have h4 : ∀ x : Row, decide (x ∈ [g]) = decide (x = g) := fun x => decide_eq_decide.mpr List.mem_singleton
  unfold newPairs wentP
  rw [h1, h2, List.append_nil]
  simp only [h3, h4]
theorem went_perm {q now : List Row} {g : Row} (p : q.Perm (g :: now)) (nd : (g :: now).Nodup) : (wentP q g).Perm now := by
  have e1 : q.filter (fun x => !decide (x.1 = g.1)) = (q.filter fun x => !decide (x = g)).filter fun x => !decide (x.1 = g.1) := by
    rw [List.filter_filter]
    refine List.filter_congr fun x _ => ?_
    by_cases h : x = g
    · simp [h]
    · simp [h]
  have e2 : q.filter (fun x => decide (x.1 = g.1) && !decide (x = g)) = (q.filter fun x => !decide (x = g)).filter fun x => !(!decide (x.1 = g.1)) := by
    rw [List.filter_filter]
    exact List.filter_congr fun x _ => by rw [Bool.not_not]
  unfold wentP
  rw [e1, e2]
  refine (List.filter_append_perm _ _).trans ((p.filter _).trans ?_)
  rw [List.filter_cons, if_neg (by simp)]
  rw [List.filter_eq_self.mpr fun x hx => by have : x ≠ g := fun e => (List.nodup_cons.mp nd).1 (e ▸ hx); simp only [this, decide_false, Bool.not_false]]
theorem goes_eq {q : List Row} {g : Row} (h1 : ∀ x, x ∈ q → (Txt.lower x.1 = Txt.lower (Txt.upper g.1) ↔ x.1 = g.1)) (h2 : ∀ x, x ∈ q → (Txt.lower x.1 = Txt.lower g.1 ↔ x.1 = g.1)) : goesQ q (swapR g) = wentP q g := by
  unfold goesQ wentP othersOf
  refine congr (congrArg _ (List.filter_congr fun x hx => ?_)) ?_
  · show (!decide (Txt.lower x.1 = Txt.lower (Txt.upper g.1))) = _
    rw [decide_eq_decide.mpr (h1 x hx)]
  · rw [List.filter_map, List.map_map, List.filter_filter]
    have e : q.filter (fun a => ((fun o => decide (o ≠ (swapR g).1)) ∘ fun x : Row => x.2) a && isN (swapR g).2 a) = q.filter fun x => decide (x.1 = g.1) && !decide (x = g) := by
      refine List.filter_congr fun x hx => ?_
      show (decide (x.2 ≠ g.2) && decide (Txt.lower x.1 = Txt.lower g.1)) = _
      rw [show decide (Txt.lower x.1 = Txt.lower g.1) = decide (x.1 = g.1) from decide_eq_decide.mpr (h2 x hx)]
      by_cases c : x.1 = g.1
      · have : decide (x = g) = decide (x.2 = g.2) := decide_eq_decide.mpr ⟨fun e => e ▸ rfl, fun e => Prod.ext c e⟩
        rw [this, decide_eq_true c, Bool.and_true, Bool.true_and, decide_not]
      · rw [decide_eq_false c, Bool.and_false, Bool.false_and]
    rw [e]
    conv => rhs; rw [← List.map_id (q.filter fun x => decide (x.1 = g.1) && !decide (x = g))]
    refine List.map_congr_left fun x hx => ?_
    have := (List.mem_filter.mp hx).2
    rw [Bool.and_eq_true, decide_eq_true_eq] at this
    exact Prod.ext this.1.symm rfl
end Mine
set_option maxRecDepth 100000
set_option maxHeartbeats 2000000
namespace Mine
open PySem PySem.W PyProof.Rows PySem.Calls

theorem nd_right {P R : List (Option Nat)} {T1 Q : List Nat} (h1 : Run [] P T1 Q) (nd : (lays (P ++ R)).Nodup) : (Q ++ lays R).Nodup := by
  rw [lays, List.filterMap_append] at nd
  have q := (h1.all.append_right (lays R)).nodup nd
  rw [List.append_assoc] at q
  exact (List.nodup_append.mp q).2.1
theorem up_core {P R S S' : List (Option Nat)} {T F T' F' X : List Nat} {b : Nat} (h : Run [] S T F) (h' : Run [] S' T' F') (nd : (lays S).Nodup)
    (hk : (∃ x, S = P ++ R ∧ S' = P ++ some x :: R ∧ X = [x]) ∨ (S = P ++ none :: R ∧ S' = P ++ R ∧ X = [])) (hb : b ≤ P.length) (c0 : cntO F (S.take b) = 0) (cn : ∀ j, b < j → j ≤ P.length → cntO F (S.take j) ≠ 0) :
    ∃ y', F'.Perm (y' :: F) ∧ (y' ∈ X ∨ (y' ∈ lays (S.drop b) ∧ y' ∉ F)) ∧ ∀ z, (z ∈ X ∨ (z ∈ lays (S.drop b) ∧ z ∉ F)) → z ≤ y' := by
  have tk : ∀ j R', j ≤ P.length → (P ++ R').take j = P.take j := fun j R' hj => by rw [List.take_append_of_le_length hj]
  rcases hk with ⟨x, rfl, rfl, rfl⟩ | ⟨rfl, rfl, rfl⟩
  · obtain ⟨Qp, T1, T2, _, a, r⟩ := h.split
    obtain ⟨Qp', T1', T2', _, a', r'⟩ := h'.split
    obtain ⟨u1, u2⟩ := Run.candUp a r nd hb (tk b R hb ▸ c0) fun j j1 j2 => tk j R j2 ▸ cn j j1 j2
    cases r' with
    | put r' =>
      obtain ⟨y', p, m, l⟩ := r.up ((a.det (List.Perm.refl _) a').cons _) r'
      refine ⟨y', p, ?_, fun z hz => ?_⟩
      · exact (List.mem_cons.mp m).imp (fun e => List.mem_singleton.mpr e) (u1 _)
      · rcases hz with hz | ⟨z1, z2⟩
        · exact l z (List.mem_singleton.mp hz ▸ .head _)
        · obtain ⟨u, v1, v2⟩ := u2 z z1 z2
          exact Nat.le_trans v2 (l u (.tail _ v1))
  · obtain ⟨Qp, T1, T2, _, a, r⟩ := h.split
    obtain ⟨Qp', T1', T2', _, a', r'⟩ := h'.split
    obtain ⟨u1, u2⟩ := Run.candUp a r nd hb (tk b _ hb ▸ c0) fun j j1 j2 => tk j (none :: R) j2 ▸ cn j j1 j2
    cases r with
    | take p l r =>
      obtain ⟨y', p, m, l⟩ := r.up ((a.det (List.Perm.refl _) a').trans p) r'
      refine ⟨y', p, .inr (u1 _ m), fun z hz => ?_⟩
      rcases hz with hz | ⟨z1, z2⟩
      · cases hz
      · obtain ⟨u, v1, v2⟩ := u2 z z1 z2
        exact Nat.le_trans v2 (l u v1)
theorem down_core {P R S S' : List (Option Nat)} {T F T' F' : List Nat} {lo e : Nat} (h : Run [] S T F) (h' : Run [] S' T' F') (nd : (lays S).Nodup)
    (hk : (S = P ++ R ∧ S' = P ++ none :: R ∧ lo = P.length) ∨ (∃ x, S = P ++ some x :: R ∧ S' = P ++ R ∧ x ∉ F ∧ lo = P.length + 1)) (he : lo ≤ e) (hl : e ≤ S.length) (c0 : cntO F (S.take e) = 0) (cn : ∀ j, lo ≤ j → j < e → cntO F (S.take j) ≠ 0) :
    ∃ y', F.Perm (y' :: F') ∧ y' ∈ lays (S.take e) ∧ ∀ z, z ∈ lays (S.take e) → z ∈ F → y' ≤ z := by
  rcases hk with ⟨rfl, rfl, rfl⟩ | ⟨x, rfl, rfl, hx, rfl⟩
  · obtain ⟨Qp, T1, T2, _, a, r⟩ := h.split
    obtain ⟨Qp', T1', T2', _, a', r'⟩ := h'.split
    cases r' with
    | take p l r' =>
      have q := (a.det (List.Perm.refl _) a').symm
      exact Run.candDown a r r' (q.trans p) nd (fun _ z hz => l z (q.subset hz)) rfl he hl c0 cn
  · obtain ⟨Qp, T1, T2, _, a, r⟩ := h.split
    obtain ⟨Qp', T1', T2', _, a', r'⟩ := h'.split
    have q := (a.det (List.Perm.refl _) a').symm
    have eS : P ++ some x :: R = (P ++ [some x]) ++ R := by rw [List.append_assoc]; rfl
    have eL : (P ++ [some x]).length = P.length + 1 := by rw [List.length_append]; rfl
    cases r with
    | put r =>
      rw [← eL] at he cn
      exact Run.candDown (P := P ++ [some x]) (a.app (.put (.nil (List.Perm.refl _)))) r r' (q.cons x) (eS ▸ nd) (fun c => absurd c hx) eS he hl c0 cn
theorem one_core {P R : List (Option Nat)} {T F T' F' : List Nat} {x : Nat} (h : Run [] (P ++ some x :: R) T F) (h' : Run [] (P ++ R) T' F') (nd : (lays (P ++ some x :: R)).Nodup) (hx : x ∈ F) : F.Perm (x :: F') := by
  obtain ⟨Qp, T1, T2, _, a, r⟩ := h.split
  obtain ⟨Qp', T1', T2', _, a', r'⟩ := h'.split
  have n := nd_right a nd
  cases r with
  | put r => exact r.same (((a.det (List.Perm.refl _) a').symm).cons x) r' fun c => (r.dj (List.perm_middle.nodup n)) c hx
end Mine
set_option maxRecDepth 100000
set_option maxHeartbeats 2000000
namespace Mine
open PySem PySem.W PyProof.Rows PySem.Calls

noncomputable def th (F : List Nat) (d : Dd) : Bool := (encO d).elim false fun e => decide (e ∈ F)
noncomputable def zD (row : Dd → Row) (F : List Nat) (S : List Dd) : List (Row × Bool) := S.map fun d => (row d, th F d)
/-- rows tell deeds -/
structure Nm (row : Dd → Row) (al : List Dd) : Prop where
  inj : ∀ a b, a ∈ al → b ∈ al → (row a).1 = (row b).1 → a = b
  key : ∀ d, d ∈ al → ((row d).2 = "" ↔ d.2.2 < 0)
noncomputable def lays? (d : Dd) : Bool := !decide (d.2.2 < 0)
noncomputable def cLost (F : List Nat) (S : List Dd) (b : Nat) : List Dd := (S.drop b).filter fun d => lays? d && !th F d
noncomputable def cDown (F : List Nat) (S : List Dd) (e : Nat) : List Dd := (S.take e).filter (th F)
theorem th_eq {F : List Nat} {d : Dd} (h : ¬ d.2.2 < 0) : th F d = decide (rkH (hOf d) ∈ F) := by unfold th encO; rw [if_neg h]; rfl
theorem th_lays {F : List Nat} {d : Dd} (h : th F d = true) : ¬ d.2.2 < 0 ∧ rkH (hOf d) ∈ F := by
  by_cases c : d.2.2 < 0
  · unfold th encO at h; rw [if_pos c] at h; cases h
  · exact ⟨c, of_decide_eq_true (th_eq c ▸ h)⟩
section
variable {row : Dd → Row} {al S : List Dd} {F : List Nat}
theorem cnt_zD (nm : Nm row al) (hS : ∀ d, d ∈ S → d ∈ al) (j : Nat) : cntAt (zD row F S) j = cntO F ((S.map encO).take j) := by
  unfold cntAt cntO zD
  rw [← List.map_take, ← List.map_take, List.map_map, List.map_map]
  refine congrArg _ (List.map_congr_left fun d hd => ?_)
  have k := nm.key d (hS d (List.mem_of_mem_take hd))
  show stepC (row d, th F d) = stepO F (encO d)
  unfold stepC th encO
  by_cases c : d.2.2 < 0
  · rw [if_pos (k.mpr c), if_pos c]; rfl
  · rw [if_neg fun e => c (k.mp e), if_neg c]
    show (if decide (rkH (hOf d) ∈ F) = true then (0 : Int) else 1) = if rkH (hOf d) ∈ F then 0 else 1
    simp only [decide_eq_true_eq]
theorem lost_zD (nm : Nm row al) (hS : ∀ d, d ∈ S → d ∈ al) (b : Nat) : lostOf (zD row F S) b = (cLost F S b).map row := by
  unfold lostOf zD cLost
  rw [← List.map_drop, List.filter_map, List.map_map]
  refine congrArg _ (List.filter_congr fun d hd => ?_)
  have k := nm.key d (hS d (List.mem_of_mem_drop hd))
  show (!decide ((row d).2 = "") && !th F d) = (lays? d && !th F d)
  unfold lays?
  rw [decide_eq_decide.mpr k]
theorem down_zD (e : Nat) : candDown (zD row F S) e = (cDown F S e).map row := by
  unfold candDown zD cDown
  rw [← List.map_take, List.filter_map, List.map_map]
  rfl
theorem mem_cLost {b : Nat} {d : Dd} : d ∈ cLost F S b ↔ d ∈ S.drop b ∧ ¬ d.2.2 < 0 ∧ rkH (hOf d) ∉ F := by
  unfold cLost
  rw [List.mem_filter]
  refine and_congr_right fun _ => ?_
  unfold lays?
  by_cases c : d.2.2 < 0
  · simp only [c, decide_true, Bool.not_true, Bool.false_and, Bool.false_eq_true, not_true, false_and]
  · rw [th_eq c]
    simp only [c, decide_false, Bool.not_false, Bool.true_and, not_false_eq_true, true_and, Bool.not_eq_true', decide_eq_false_iff_not]
theorem mem_cDown {e : Nat} {d : Dd} : d ∈ cDown F S e ↔ d ∈ S.take e ∧ ¬ d.2.2 < 0 ∧ rkH (hOf d) ∈ F := by
  unfold cDown
  rw [List.mem_filter]
  exact and_congr_right fun _ => ⟨th_lays, fun c => th_eq c.1 ▸ decide_eq_true c.2⟩
theorem lays_all : ∀ {l : List Dd}, (∀ d, d ∈ l → ¬ d.2.2 < 0) → lays (l.map encO) = l.map fun d => rkH (hOf d)
  | [], _ => rfl
  | d :: l, h => by
    have e : encO d = some (rkH (hOf d)) := if_neg (h d (.head _))
    rw [List.map_cons, e, lays_put, lays_all fun d hd => h d (.tail _ hd), List.map_cons]
theorem rk_nd {l : List Dd} (hl : ∀ d, d ∈ l → ¬ d.2.2 < 0) (h : (lays (l.map encO)).Nodup) : (l.map fun d => rkH (hOf d)).Nodup := lays_all hl ▸ h
/-- rows in the order of the deeds -/
structure Rk (row : Dd → Row) (al : List Dd) (rkT rkK : Row → Nat) : Prop where
  t : ∀ d, d ∈ al → rkT (row d) = rkD d
  k : ∀ d, d ∈ al → rkK (row d) = rkH (hOf d)
variable {rkT rkK : Row → Nat}
theorem best_last (rk : Rk row al rkT rkK) {l : List Dd} {d : Dd} (ha : ∀ x, x ∈ l → x ∈ al ∧ ¬ x.2.2 < 0) (nd : (lays (l.map encO)).Nodup) (hd : d ∈ l) (h : ∀ x, x ∈ l → rkH (hOf x) ≤ rkH (hOf d)) : lastOne (sortBy rkK (l.map row)) = [row d] := by
  have e : (l.map row).map rkK = l.map fun d => rkH (hOf d) := by rw [List.map_map]; exact List.map_congr_left fun x hx => rk.k x (ha x hx).1
  refine sort_last (e ▸ rk_nd (fun x hx => (ha x hx).2) nd) (List.mem_map_of_mem hd) fun r hr => ?_
  obtain ⟨x, hx, rfl⟩ := List.mem_map.mp hr
  rw [rk.k x (ha x hx).1, rk.k d (ha d hd).1]
  exact h x hx
theorem best_first (rk : Rk row al rkT rkK) {l : List Dd} {d : Dd} (ha : ∀ x, x ∈ l → x ∈ al ∧ ¬ x.2.2 < 0) (nd : (lays (l.map encO)).Nodup) (hd : d ∈ l) (h : ∀ x, x ∈ l → rkH (hOf d) ≤ rkH (hOf x)) : (sortBy rkK (l.map row)).take 1 = [row d] := by
  have e : (l.map row).map rkK = l.map fun d => rkH (hOf d) := by rw [List.map_map]; exact List.map_congr_left fun x hx => rk.k x (ha x hx).1
  refine sort_head (e ▸ rk_nd (fun x hx => (ha x hx).2) nd) (List.mem_map_of_mem hd) fun r hr => ?_
  obtain ⟨x, hx, rfl⟩ := List.mem_map.mp hr
  rw [rk.k x (ha x hx).1, rk.k d (ha d hd).1]
  exact h x hx
theorem lays_sub {l m : List Dd} (h : l.Sublist m) (nd : (lays (m.map encO)).Nodup) : (lays (l.map encO)).Nodup := ((h.map encO).filterMap id).nodup nd
end
end Mine
set_option maxRecDepth 100000
set_option maxHeartbeats 2000000
namespace Mine
open PySem PySem.W PyProof.Rows PySem.Calls

/-- a change of the past, told by deeds -/
structure Chg (row : Dd → Row) (al ds later : List Dd) (dn : Dd) (kind : Nat) (F F' : List Hh) (q : List Row) (rkT rkK : Row → Nat) : Prop where
  ok : DdOk al
  nm : Nm row al
  rk : Rk row al rkT rkK
  k : (kind < 2 ∧ al = dn :: ds ∧ later.Perm (dn :: ds)) ∨ (kind = 2 ∧ al = dn :: later ∧ ds.Perm (dn :: later))
  k0 : kind = 0 → ¬ dn.2.2 < 0
  k1 : kind = 1 → dn.2.2 < 0
  f : leftOf ds = some F
  f' : leftOf later = some F'
  q0 : zOf q ((sortBy rkD ds).map row) = zD row (F.map rkH) (sortBy rkD ds)
  qd : kind = 2 → thereOf q (row dn) = th (F.map rkH) dn
section
variable {row : Dd → Row} {al ds later : List Dd} {dn : Dd} {kind : Nat} {F F' : List Hh} {q : List Row} {rkT rkK : Row → Nat}
theorem Chg.sub (h : Chg row al ds later dn kind F F' q rkT rkK) : (∀ d, d ∈ ds → d ∈ al) ∧ ∀ d, d ∈ later → d ∈ al := by
  rcases h.k with ⟨_, e, p⟩ | ⟨_, e, p⟩
  · exact ⟨fun d hd => e ▸ List.mem_cons_of_mem _ hd, fun d hd => e ▸ p.subset hd⟩
  · exact ⟨fun d hd => e ▸ p.subset hd, fun d hd => e ▸ List.mem_cons_of_mem _ hd⟩
theorem Chg.S (h : Chg row al ds later dn kind F F' q rkT rkK) : ∀ d, d ∈ sortBy rkD ds → d ∈ al := fun d hd => h.sub.1 d (sortBy_perm.subset hd)
theorem Chg.okS (h : Chg row al ds later dn kind F F' q rkT rkK) : DdOk ds := by
  rcases h.k with ⟨_, e, p⟩ | ⟨_, e, p⟩
  · have := e ▸ h.ok
    exact ⟨fun d hd => this.small d (.tail _ hd), (List.nodup_cons.mp this.nd).2, Nat.lt_of_succ_lt this.len⟩
  · exact (e ▸ h.ok).perm p.symm
theorem Chg.rows (h : Chg row al ds later dn kind F F' q rkT rkK) : sortBy rkT (ds.map row) = (sortBy rkD ds).map row := sort_map (fun d hd => h.rk.t d (h.sub.1 d hd)) h.okS.rk
theorem Chg.z (h : Chg row al ds later dn kind F F' q rkT rkK) : zOf q (sortBy rkT (ds.map row)) = zD row (F.map rkH) (sortBy rkD ds) := h.rows ▸ h.q0
theorem Chg.small (h : Chg row al ds later dn kind F F' q rkT rkK) : (∀ x, x ∈ F → x.2.1 < 16 ∧ x.2.2 < 64) ∧ ∀ x, x ∈ F' → x.2.1 < 16 ∧ x.2.2 < 64 := by
  have : ∀ ds : List Dd, (∀ d, d ∈ ds → d ∈ al) → ∀ F, leftOf ds = some F → ∀ x, x ∈ F → x.2.1 < 16 ∧ x.2.2 < 64 := fun ds hs F e x hx => by
    rcases leftR_from _ _ _ e x hx with c | ⟨d, a, _, rfl⟩
    · cases c
    · exact ⟨(h.ok.small d (hs d (sortBy_perm.subset a))).1, (h.ok.small d (hs d (sortBy_perm.subset a))).2.1⟩
  exact ⟨this ds h.sub.1 F h.f, this later h.sub.2 F' h.f'⟩
theorem Chg.smallH (h : Chg row al ds later dn kind F F' q rkT rkK) {d : Dd} (hd : d ∈ al) : (hOf d).2.1 < 16 ∧ (hOf d).2.2 < 64 := ⟨(h.ok.small d hd).1, (h.ok.small d hd).2.1⟩
theorem place_eq (rk : Rk row al rkT rkK) {P R : List Dd} (hd : dn ∈ al) (hs : ∀ d, d ∈ P ++ R → d ∈ al) (hP : ∀ x, x ∈ P → rkD x < rkD dn) (hR : ∀ x, x ∈ R → ¬ rkD x < rkD dn) : placeOf rkT ((P ++ R).map row) (row dn) = P.length := by
  unfold placeOf
  rw [List.filter_map, List.length_map]
  have e : (P ++ R).filter ((fun r => decide (rkT r < rkT (row dn))) ∘ row) = (P ++ R).filter fun x => decide (rkD x < rkD dn) := List.filter_congr fun x hx => by
    show decide (rkT (row x) < rkT (row dn)) = _
    rw [rk.t x (hs x hx), rk.t dn hd]
  rw [e, List.filter_append, List.filter_eq_self.mpr fun x hx => decide_eq_true (hP x hx), List.filter_eq_nil_iff.mpr fun x hx => by rw [decide_eq_true_eq]; exact hR x hx, List.append_nil]
noncomputable def extraOf (kind : Nat) (dn : Dd) : List Dd := if kind = 0 then [dn] else []
theorem Chg.candUp (h : Chg row al ds later dn kind F F' q rkT rkK) (b : Nat) : candUp (zOf q (sortBy rkT (ds.map row))) b kind (row dn) = (cLost (F.map rkH) (sortBy rkD ds) b ++ extraOf kind dn).map row := by
  unfold Mine.candUp extraOf
  rw [h.z, lost_zD h.nm h.S, List.map_append]
  by_cases c : kind = 0
  · rw [if_pos (decide_eq_true c), if_pos c]; rfl
  · rw [if_neg (by simp only [c, decide_false, Bool.false_eq_true, not_false_eq_true]), if_neg c]; rfl
theorem Chg.candDown (h : Chg row al ds later dn kind F F' q rkT rkK) (e : Nat) : candDown (zOf q (sortBy rkT (ds.map row))) e = (cDown (F.map rkH) (sortBy rkD ds) e).map row := by rw [h.z, down_zD]
/-- the candidates: layings, each once -/
theorem Chg.upOk (h : Chg row al ds later dn kind F F' q rkT rkK) (b : Nat) : (∀ x, x ∈ cLost (F.map rkH) (sortBy rkD ds) b ++ extraOf kind dn → x ∈ al ∧ ¬ x.2.2 < 0) ∧ (lays ((cLost (F.map rkH) (sortBy rkD ds) b ++ extraOf kind dn).map encO)).Nodup ∧ (cLost (F.map rkH) (sortBy rkD ds) b ++ extraOf kind dn).length < 64 := by
  have sb : (cLost (F.map rkH) (sortBy rkD ds) b).Sublist (sortBy rkD ds) := List.filter_sublist.trans (List.drop_sublist ..)
  have p : (∃ m : List Dd, m.Perm (sortBy rkD ds ++ extraOf kind dn) ∧ m.Sublist al) ∧ ∀ x, x ∈ extraOf kind dn → x ∈ al ∧ ¬ x.2.2 < 0 := by
    unfold extraOf
    rcases h.k with ⟨_, e, p⟩ | ⟨c, e, p⟩
    · split
      · rename_i c
        refine ⟨⟨dn :: ds, (sortBy_perm.symm.cons dn).trans (List.perm_append_comm (l₁ := [dn])), e ▸ List.Sublist.refl _⟩, fun x hx => ?_⟩
        rw [List.mem_singleton.mp hx]
        exact ⟨e ▸ .head _, h.k0 c⟩
      · rw [List.append_nil, e]
        exact ⟨⟨ds, sortBy_perm.symm, List.sublist_cons_self ..⟩, nofun⟩
    · rw [c, if_neg (by decide), List.append_nil, e]
      exact ⟨⟨_, (sortBy_perm.trans p).symm, List.Sublist.refl _⟩, nofun⟩
  obtain ⟨m, pm, sm⟩ := p.1
  have sC : (cLost (F.map rkH) (sortBy rkD ds) b ++ extraOf kind dn).Sublist (sortBy rkD ds ++ extraOf kind dn) := sb.append_right _
  refine ⟨fun x hx => ?_, ?_, ?_⟩
  · rcases List.mem_append.mp hx with c | c
    · exact ⟨h.S x (sb.subset c), (mem_cLost.mp c).2.1⟩
    · exact p.2 x c
  · exact lays_sub sC ((((pm.map encO).filterMap id).nodup (lays_sub sm h.ok.lays)))
  · exact Nat.lt_of_le_of_lt sC.length_le (Nat.lt_of_le_of_lt (pm.length_eq ▸ sm.length_le) h.ok.len)
theorem Chg.downOk (h : Chg row al ds later dn kind F F' q rkT rkK) (e : Nat) : (∀ x, x ∈ cDown (F.map rkH) (sortBy rkD ds) e → x ∈ al ∧ ¬ x.2.2 < 0) ∧ (lays ((cDown (F.map rkH) (sortBy rkD ds) e).map encO)).Nodup ∧ (cDown (F.map rkH) (sortBy rkD ds) e).length < 64 := by
  have sb : (cDown (F.map rkH) (sortBy rkD ds) e).Sublist (sortBy rkD ds) := List.filter_sublist.trans (List.take_sublist ..)
  refine ⟨fun x hx => ⟨h.S x (sb.subset hx), (mem_cDown.mp hx).2.1⟩, ?_, ?_⟩
  · exact lays_sub sb (h.okS.perm sortBy_perm.symm).lays
  · exact Nat.lt_of_le_of_lt sb.length_le (sortBy_perm.length_eq.symm ▸ h.okS.len)
end
end Mine
set_option maxRecDepth 100000
set_option maxHeartbeats 2000000
namespace Mine
open PySem PySem.W PyProof.Rows PySem.Calls

section
variable {row : Dd → Row} {al ds later : List Dd} {dn : Dd} {kind : Nat} {F F' : List Hh} {q : List Row} {rkT rkK : Row → Nat}
theorem Chg.split (h : Chg row al ds later dn kind F F' q rkT rkK) : ∃ P R, ((kind < 2 ∧ sortBy rkD ds = P ++ R ∧ sortBy rkD later = P ++ dn :: R) ∨ (kind = 2 ∧ sortBy rkD ds = P ++ dn :: R ∧ sortBy rkD later = P ++ R)) ∧ placeOf rkT (sortBy rkT (ds.map row)) (row dn) = P.length ∧ dn ∈ al := by
  rw [h.rows]
  have hS := h.S
  rcases h.k with ⟨c, e, p⟩ | ⟨c, e, p⟩
  · obtain ⟨P, R, s0, s1, hP, hR⟩ := ins (e ▸ h.ok)
    have hd : dn ∈ al := e ▸ .head _
    refine ⟨P, R, .inl ⟨c, s0, s1 _ p⟩, ?_, hd⟩
    rw [s0] at hS ⊢
    exact place_eq h.rk hd hS hP fun x hx => Nat.not_lt_of_lt (hR x hx)
  · obtain ⟨P, R, s0, s1, hP, hR⟩ := ins (e ▸ h.ok)
    have hd : dn ∈ al := e ▸ .head _
    refine ⟨P, R, .inr ⟨c, s1 _ p, s0⟩, ?_, hd⟩
    rw [s1 _ p] at hS ⊢
    refine place_eq h.rk hd hS hP fun x hx => ?_
    rcases List.mem_cons.mp hx with rfl | hx
    · exact Nat.lt_irrefl _
    · exact Nat.not_lt_of_lt (hR x hx)
theorem Chg.ndS (h : Chg row al ds later dn kind F F' q rkT rkK) : (lays ((sortBy rkD ds).map encO)).Nodup := (h.okS.perm sortBy_perm.symm).lays
theorem Chg.zero (h : Chg row al ds later dn kind F F' q rkT rkK) : cntAt (zD row (F.map rkH) (sortBy rkD ds)) (sortBy rkD ds).length = 0 := by
  obtain ⟨T, r⟩ := leftR_run _ _ _ h.f
  rw [cnt_zD h.nm h.S, List.take_of_length_le (by rw [List.length_map]; exact Nat.le_refl _)]
  exact (Run.cnt (R := []) (T2 := []) r (.nil (List.Perm.refl _)) (by rw [List.append_nil]; exact h.ndS)).mpr fun z hz => hz
theorem encO_some {d : Dd} (h : ¬ d.2.2 < 0) : encO d = some (rkH (hOf d)) := if_neg h
theorem encO_none {d : Dd} (h : d.2.2 < 0) : encO d = none := if_pos h
theorem Chg.up (h : Chg row al ds later dn kind F F' q rkT rkK) (hu : isUp kind (row dn) = true) : ∃ d, d ∈ al ∧ ¬ d.2.2 < 0 ∧ changeQ rkT rkK (ds.map row) q kind (row dn) = q ++ [swapR (row d)] ∧ F'.Perm (hOf d :: F) := by
  obtain ⟨P, R, hs, hp, hd⟩ := h.split
  obtain ⟨T, r⟩ := leftR_run _ _ _ h.f
  obtain ⟨T', r'⟩ := leftR_run _ _ _ h.f'
  have hz := h.z
  have ek : changeQ rkT rkK (ds.map row) q kind (row dn) = q ++ (lastOne (sortBy rkK (Mine.candUp (zOf q (sortBy rkT (ds.map row))) (beginOf (bridgesL (zOf q (sortBy rkT (ds.map row))) (zOf q (sortBy rkT (ds.map row))).length) (placeOf rkT (sortBy rkT (ds.map row)) (row dn))) kind (row dn)))).map swapR := if_pos hu
  rw [h.candUp] at ek
  rw [hp, hz] at ek
  have hPl : P.length ≤ (sortBy rkD ds).length := by rcases hs with ⟨_, e, _⟩ | ⟨_, e, _⟩ <;> rw [e, List.length_append] <;> exact Nat.le_add_right _ _
  have hPz : P.length ≤ (zD row (F.map rkH) (sortBy rkD ds)).length := by unfold zD; rw [List.length_map]; exact hPl
  obtain ⟨b1, b2, b3⟩ := begin_spec hPz rfl
  generalize beginOf (bridgesL (zD row (F.map rkH) (sortBy rkD ds)) (zD row (F.map rkH) (sortBy rkD ds)).length) P.length = b at *
  rw [cnt_zD h.nm h.S] at b2
  have b3' : ∀ j, b < j → j ≤ (P.map encO).length → cntO (F.map rkH) (((sortBy rkD ds).map encO).take j) ≠ 0 := fun j j1 j2 => by
    rw [← cnt_zD h.nm h.S (row := row)]
    exact b3 j j1 (List.length_map (f := encO) ▸ j2)
  have hk : (∃ x, (sortBy rkD ds).map encO = P.map encO ++ R.map encO ∧ (sortBy rkD later).map encO = P.map encO ++ some x :: R.map encO ∧ (extraOf kind dn).map (fun d => rkH (hOf d)) = [x]) ∨ ((sortBy rkD ds).map encO = P.map encO ++ none :: R.map encO ∧ (sortBy rkD later).map encO = P.map encO ++ R.map encO ∧ (extraOf kind dn).map (fun d => rkH (hOf d)) = []) := by
    unfold extraOf
    have key := h.nm.key dn hd
    unfold isUp at hu
    rcases hs with ⟨c, e1, e2⟩ | ⟨c, e1, e2⟩
    · have c0 : kind = 0 := by
        rcases Bool.or_eq_true_iff.mp hu with u | u
        · exact of_decide_eq_true u
        · have := of_decide_eq_true (Bool.and_eq_true_iff.mp u).1
          exact absurd (Nat.lt_of_le_of_lt (Nat.le_of_eq this.symm) c) (Nat.lt_irrefl 2)
      refine .inl ⟨rkH (hOf dn), ?_, ?_, ?_⟩
      · rw [e1, List.map_append]
      · rw [e2, List.map_append, List.map_cons, encO_some (h.k0 c0)]
      · rw [if_pos c0]; rfl
    · have cn : dn.2.2 < 0 := by
        rcases Bool.or_eq_true_iff.mp hu with u | u
        · have := of_decide_eq_true u
          exact absurd (c.symm.trans this) (by decide)
        · exact key.mp (of_decide_eq_true (Bool.and_eq_true_iff.mp u).2)
      refine .inr ⟨?_, ?_, ?_⟩
      · rw [e1, List.map_append, List.map_cons, encO_none cn]
      · rw [e2, List.map_append]
      · rw [c]; rfl
  obtain ⟨y', p1, p2, p3⟩ := up_core r r' h.ndS hk (List.length_map (f := encO) ▸ b1) b2 b3'
  have memC : ∀ z, (z ∈ (extraOf kind dn).map (fun d => rkH (hOf d)) ∨ (z ∈ lays (((sortBy rkD ds).map encO).drop b) ∧ z ∉ F.map rkH)) ↔ ∃ d, d ∈ cLost (F.map rkH) (sortBy rkD ds) b ++ extraOf kind dn ∧ z = rkH (hOf d) := fun z => by
    rw [← List.map_drop, mem_lays, List.mem_map]
    constructor
    · rintro (⟨d, a, e⟩ | ⟨⟨d, a, c, e⟩, f⟩)
      · exact ⟨d, List.mem_append_right _ a, e.symm⟩
      · exact ⟨d, List.mem_append_left _ (mem_cLost.mpr ⟨a, c, e ▸ f⟩), e⟩
    · rintro ⟨d, a, e⟩
      rcases List.mem_append.mp a with c | c
      · have := mem_cLost.mp c
        exact .inr ⟨⟨d, this.1, this.2.1, e⟩, e ▸ this.2.2⟩
      · exact .inl ⟨d, c, e.symm⟩
  obtain ⟨o1, o2, _⟩ := h.upOk b
  obtain ⟨d, d1, d2⟩ := (memC y').mp p2
  refine ⟨d, (o1 d d1).1, (o1 d d1).2, ?_, ?_⟩
  · rw [ek, best_last h.rk o1 o2 d1 fun x hx => d2 ▸ p3 _ ((memC _).mpr ⟨x, hx, rfl⟩)]; rfl
  · refine perm_back h.small.2 (fun x hx => ?_) (by rw [List.map_cons, ← d2]; exact p1)
    rcases List.mem_cons.mp hx with rfl | hx
    · exact h.smallH (o1 d d1).1
    · exact h.small.1 x hx
theorem Chg.down (h : Chg row al ds later dn kind F F' q rkT rkK) (hu : isUp kind (row dn) = false) : ∃ d, d ∈ al ∧ ¬ d.2.2 < 0 ∧ changeQ rkT rkK (ds.map row) q kind (row dn) = goesQ q (row d) ∧ F.Perm (hOf d :: F') := by
  obtain ⟨P, R, hs, hp, hd⟩ := h.split
  obtain ⟨T, r⟩ := leftR_run _ _ _ h.f
  obtain ⟨T', r'⟩ := leftR_run _ _ _ h.f'
  have hz := h.z
  obtain ⟨u0, u2⟩ := Bool.or_eq_false_iff.mp (show (decide (kind = 0) || (decide (kind = 2) && decide ((row dn).2 = ""))) = false from hu)
  have u0 := of_decide_eq_false u0
  have key := h.nm.key dn hd
  have back : ∀ d, d ∈ al → (F.map rkH).Perm (rkH (hOf d) :: F'.map rkH) → F.Perm (hOf d :: F') := fun d hd p => perm_back h.small.1 (fun x hx => (List.mem_cons.mp hx).elim (fun e => e ▸ h.smallH hd) (h.small.2 x)) p
  by_cases ho : (decide (kind = 2) && thereOf q (row dn)) = true
  · have ek : changeQ rkT rkK (ds.map row) q kind (row dn) = ((sortBy rkK [row dn]).take 1).foldl goesQ q := (if_neg (by rw [hu]; exact Bool.false_ne_true)).trans (if_pos ho)
    obtain ⟨c2, ct⟩ := Bool.and_eq_true_iff.mp ho
    have c2 := of_decide_eq_true c2
    rw [h.qd c2] at ct
    obtain ⟨cn, cF⟩ := th_lays ct
    rcases hs with ⟨c, _, _⟩ | ⟨_, e1, e2⟩
    · exact absurd (Nat.lt_of_le_of_lt (Nat.le_of_eq c2.symm) c) (Nat.lt_irrefl 2)
    · refine ⟨dn, hd, cn, ?_, back dn hd ?_⟩
      · rw [ek, show [row dn] = [dn].map row from rfl, best_first h.rk (fun x hx => List.mem_singleton.mp hx ▸ ⟨hd, cn⟩) (by rw [List.map_singleton, encO_some cn]; exact (List.nodup_cons.mpr ⟨List.not_mem_nil, List.nodup_nil⟩)) (.head _) fun x hx => List.mem_singleton.mp hx ▸ Nat.le_refl _]
        rfl
      · have nd := h.ndS
        rw [e1, List.map_append, List.map_cons, encO_some cn] at r nd
        rw [e2, List.map_append] at r'
        exact one_core r r' nd cF
  · have ek : changeQ rkT rkK (ds.map row) q kind (row dn) = ((sortBy rkK (Mine.candDown (zOf q (sortBy rkT (ds.map row))) (endOf (bridgesL (zOf q (sortBy rkT (ds.map row))) (zOf q (sortBy rkT (ds.map row))).length) (placeOf rkT (sortBy rkT (ds.map row)) (row dn) + kind / 2)))).take 1).foldl goesQ q := (if_neg (by rw [hu]; exact Bool.false_ne_true)).trans (if_neg ho)
    rw [h.candDown] at ek
    rw [hp, hz] at ek
    have hzl : (zD row (F.map rkH) (sortBy rkD ds)).length = (sortBy rkD ds).length := by unfold zD; rw [List.length_map]
    have hk : ((sortBy rkD ds).map encO = P.map encO ++ R.map encO ∧ (sortBy rkD later).map encO = P.map encO ++ none :: R.map encO ∧ P.length + kind / 2 = (P.map encO).length) ∨ (∃ x, (sortBy rkD ds).map encO = P.map encO ++ some x :: R.map encO ∧ (sortBy rkD later).map encO = P.map encO ++ R.map encO ∧ x ∉ F.map rkH ∧ P.length + kind / 2 = (P.map encO).length + 1) := by
      rcases hs with ⟨c, e1, e2⟩ | ⟨c, e1, e2⟩
      · have c1 : kind = 1 := Nat.le_antisymm (Nat.le_of_lt_succ c) (Nat.pos_of_ne_zero u0)
        refine .inl ⟨?_, ?_, ?_⟩
        · rw [e1, List.map_append]
        · rw [e2, List.map_append, List.map_cons, encO_none (h.k1 c1)]
        · rw [c1, List.length_map]; rfl
      · have cn : ¬ dn.2.2 < 0 := fun n => by
          rw [decide_eq_true c, decide_eq_true (key.mpr n)] at u2
          cases u2
        refine .inr ⟨rkH (hOf dn), ?_, ?_, fun m => ho ?_, ?_⟩
        · rw [e1, List.map_append, List.map_cons, encO_some cn]
        · rw [e2, List.map_append]
        · rw [decide_eq_true c, h.qd c, th_eq cn, decide_eq_true m]; rfl
        · rw [c, List.length_map]
    have hlo : P.length + kind / 2 ≤ (sortBy rkD ds).length := by
      have : ((sortBy rkD ds).map encO).length = (sortBy rkD ds).length := List.length_map ..
      rcases hk with ⟨e1, _, e3⟩ | ⟨x, e1, _, _, e3⟩ <;> rw [e3, ← this, e1, List.length_append]
      · exact Nat.le_add_right _ _
      · exact Nat.add_le_add_left (Nat.succ_le_succ (Nat.zero_le _)) _
    obtain ⟨b1, b2, b3, b4⟩ := end_spec (hzl.symm ▸ hlo) (hzl.symm ▸ h.zero) rfl
    generalize endOf (bridgesL (zD row (F.map rkH) (sortBy rkD ds)) (zD row (F.map rkH) (sortBy rkD ds)).length) (P.length + kind / 2) = e at *
    rw [hzl] at b2
    rw [cnt_zD h.nm h.S] at b3
    have b4' : ∀ j, P.length + kind / 2 ≤ j → j < e → cntO (F.map rkH) (((sortBy rkD ds).map encO).take j) ≠ 0 := fun j j1 j2 => by
      rw [← cnt_zD h.nm h.S (row := row)]
      exact b4 j j1 j2
    obtain ⟨y', p1, p2, p3⟩ := down_core r r' h.ndS hk b1 ((List.length_map (f := encO)).symm ▸ b2) b3 b4'
    have hF : y' ∈ F.map rkH := p1.symm.subset (.head _)
    rw [← List.map_take] at p2 p3
    obtain ⟨d, d1, d2, rfl⟩ := mem_lays.mp p2
    obtain ⟨o1, o2, _⟩ := h.downOk e
    have dm := mem_cDown.mpr ⟨d1, d2, hF⟩
    refine ⟨d, (o1 d dm).1, d2, ?_, back d (o1 d dm).1 p1⟩
    rw [ek, best_first h.rk o1 o2 dm fun x hx => ?_]
    · rfl
    · have := mem_cDown.mp hx
      exact p3 _ (mem_lays.mpr ⟨x, this.1, this.2.1, rfl⟩) this.2.2
end
end Mine
set_option maxRecDepth 100000
set_option maxHeartbeats 2000000
namespace Mine
open PySem PySem.W PyProof.Rows PySem.Calls

noncomputable def codeN0 : Array Nat := #[14, 10, 4, 1, 1, 22, 0, 31, 16, 127, 0, 13, 7, 22, 0, 31, 16, 127, 0, 1]
noncomputable def codeV0 : Array Nat := #[14, 14, 4, 1, 1, 9, 4294966783, 0, 0, 2147483648, 0, 0, 0, 0, 0, 13, 11, 9, 4294966783, 0, 0, 2147483648, 0, 0, 0, 0, 0, 1]
noncomputable def eqvL : List PyData → List PyData → Bool
  | [], [] => true
  | .int a :: l, .int b :: m => decide (a = b) && eqvL l m
  | .str a :: l, .str b :: m => decide (a = b) && eqvL l m
  | _, _ => false
theorem eqvL_eq : ∀ l m, eqvL l m = true → l = m
  | [], [], _ => rfl
  | .int a :: l, .int b :: m, h => by
    obtain ⟨h1, h2⟩ := Bool.and_eq_true_iff.mp (show (decide (a = b) && eqvL l m) = true from h)
    rw [of_decide_eq_true h1, eqvL_eq l m h2]
  | .str a :: l, .str b :: m, h => by
    obtain ⟨h1, h2⟩ := Bool.and_eq_true_iff.mp (show (decide (a = b) && eqvL l m) = true from h)
    rw [of_decide_eq_true h1, eqvL_eq l m h2]
/-! lower and upper of ASCII -/
noncomputable def alC (c : Nat) : Nat := if 65 ≤ c ∧ c ≤ 90 then c + 32 else c
noncomputable def auC (c : Nat) : Nat := if 97 ≤ c ∧ c ≤ 122 then c - 32 else c
noncomputable def asc (x : Str) : Bool := x.cps.toList.all fun c => decide (c < 128)
noncomputable def alS (x : Str) : Str := ⟨(x.cps.toList.map alC).toArray⟩
noncomputable def auS (x : Str) : Str := ⟨(x.cps.toList.map auC).toArray⟩
theorem ascii_images : ∀ c, c < 128 → Unicode.lowerOf c = [alC c] ∧ Unicode.upperOf c = [auC c] := by decide +kernel
theorem flat_one (f : Nat → Nat) : ∀ l : List Nat, (l.map fun c => [f c]).flatten = l.map f
  | [] => rfl
  | c :: l => congrArg (f c :: ·) (flat_one f l)
theorem placed_one {x : Str} {g : Nat → Nat → List Nat} {f : Nat → Nat} (h : ∀ i c, x.cps[i]? = some c → g i c = [f c]) : (⟨placed x g⟩ : Str) = ⟨(x.cps.toList.map f).toArray⟩ := by
  have e : (x.cps.mapIdx fun i c => (g i c).toArray) = x.cps.map fun c => [f c].toArray := by
    refine Array.ext (by rw [Array.size_mapIdx, Array.size_map]) fun i h1 h2 => ?_
    rw [Array.getElem_mapIdx, Array.getElem_map, h i _ (Array.getElem?_eq_getElem (Array.size_mapIdx (xs := x.cps) ▸ h1))]
  refine congrArg Str.mk ?_
  unfold placed
  rw [e]
  refine Array.ext' ?_
  rw [Array.toList_flatten, Array.toList_map, List.map_map]
  exact flat_one f _
theorem asc_lt {x : Str} (h : asc x = true) {i c : Nat} (hc : x.cps[i]? = some c) : c < 128 := of_decide_eq_true (List.all_eq_true.mp h c (Array.mem_toList_iff.mpr (Array.mem_of_getElem? hc)))
theorem upper_asc {x : Str} (h : asc x = true) : Txt.upper x = auS x := placed_one fun i c hc => (ascii_images c (asc_lt h hc)).2
theorem lower_asc {x : Str} (h : asc x = true) : Txt.lower x = alS x := placed_one fun i c hc => by
  have lt := asc_lt h hc
  unfold Unicode.lowerAt
  rw [hc]
  dsimp only
  rw [if_neg (by have : (c == 0x3A3) = false := by rw [beq_eq_false_iff_ne]; lia
                 rw [this]; exact Bool.false_ne_true)]
  exact (ascii_images c lt).1
theorem alC_lt {c : Nat} (h : c < 128) : alC c < 128 := by unfold alC; split <;> lia
theorem auC_lt {c : Nat} (h : c < 128) : auC c < 128 := by unfold auC; split <;> lia
theorem asc_map {x : Str} (h : asc x = true) {f : Nat → Nat} (hf : ∀ c, c < 128 → f c < 128) : asc ⟨(x.cps.toList.map f).toArray⟩ = true := by
  refine List.all_eq_true.mpr fun c hc => decide_eq_true ?_
  obtain ⟨d, hd, rfl⟩ := List.mem_map.mp (show c ∈ x.cps.toList.map f from hc)
  exact hf d (of_decide_eq_true (List.all_eq_true.mp h d hd))
theorem asc_ok {x : Str} (h : asc x = true) : PyData.strOk x = true := by
  unfold PyData.strOk
  rw [← Array.all_toList, List.all_eq_true]
  exact fun c hc => decide_eq_true (Nat.lt_of_lt_of_le (of_decide_eq_true (List.all_eq_true.mp h c hc)) (by decide))
theorem len_map {x : Str} {f : Nat → Nat} : (⟨(x.cps.toList.map f).toArray⟩ : Str).length = x.length := by
  show ((x.cps.toList.map f).toArray).size = x.cps.size
  rw [List.size_toArray, List.length_map, Array.length_toList]
noncomputable def noN (x : Str) : Bool := noFind codeN0 0 x && noFind codeV0 0 x
noncomputable def sokB (x : Str) : Bool := asc x && decide (x.length < 100) && noN x && noN (alS x)
theorem sok_of {H : Hx} (hN : H.codeN = codeN0) (hV : H.codeV = codeV0) (gN : H.gN = 0) (gV : H.gV = 0) {x : Str} (h : sokB x = true) : SOk H x := by
  unfold sokB noN at h
  simp only [Bool.and_eq_true, decide_eq_true_eq] at h
  obtain ⟨⟨⟨a, l⟩, n1, n2⟩, n3, n4⟩ := h
  have l' : x.length < 1000 := Nat.lt_trans l (by decide)
  refine ⟨l', asc_ok a, ?_, ?_, ?_, ?_, ?_, ?_, ?_⟩
  · rw [lower_asc a, alS, len_map]; exact l'
  · rw [lower_asc a]; exact asc_ok (asc_map a fun _ => alC_lt)
  · rw [upper_asc a, auS, len_map]; exact l'
  · rw [upper_asc a]; exact asc_ok (asc_map a fun _ => auC_lt)
  · rw [hN, gN]; exact n1
  · rw [hV, gV]; exact n2
  · rw [lower_asc a, hN, gN]; exact n3
noncomputable def tokB (x : Str) : Bool := sokB x && sokB (auS x)
theorem joinOk_one {x : Str} (h : x.length < 100) : JoinOk "; " [x] = true := by
  unfold JoinOk
  have : Builtin.Str.tooLong (([x] : List Str).toArray.foldl (· + ·.length + ("; " : Str).length) 0) = false := short_fits (show 0 + x.length + ("; " : Str).length < 1000 from by
    have : ("; " : Str).length = 2 := by decide +kernel
    lia)
  rw [this]
  rfl
theorem tok_of {H : Hx} (hN : H.codeN = codeN0) (hV : H.codeV = codeV0) (gN : H.gN = 0) (gV : H.gV = 0) {x : Str} (h : tokB x = true) : TOk H x := by
  obtain ⟨h1, h2⟩ := Bool.and_eq_true_iff.mp h
  have h3 := h1
  unfold sokB at h3
  simp only [Bool.and_eq_true, decide_eq_true_eq] at h3
  refine ⟨sok_of hN hV gN gV h1, ?_, joinOk_one h3.1.1.2, ?_⟩
  · rw [upper_asc h3.1.1.1]; exact sok_of hN hV gN gV h2
  · rfl
end Mine
set_option maxRecDepth 100000
set_option maxHeartbeats 2000000
namespace Mine
open PySem PySem.W PyProof.Rows PySem.Calls

noncomputable def verB (x : Str) (l : List PyData) : Bool := match splitR compCode x.cps 15 (2 * x.length + 3) 0 false with
  | none => false
  | some ps => decide (ps.length < 400) && (ps.all fun y => PyData.strOk y && decide (y.length ≤ 640) && decide ((reprText y).length ≤ 1000)) && eqvL (compL ps) l
theorem ver_of {x : Str} {l : List PyData} (h : verB x l = true) (hx : x.length < 1000) : ∃ ps, VerStr x ps ∧ compL ps = l := by
  unfold verB at h
  cases e : splitR compCode x.cps 15 (2 * x.length + 3) 0 false with
  | none => rw [e] at h; cases h
  | some ps =>
    rw [e] at h
    simp only [Bool.and_eq_true, decide_eq_true_eq, List.all_eq_true] at h
    exact ⟨ps, ⟨hx, ⟨15, _, e, Nat.le_refl _, by decide⟩, h.1.1, fun y hy => ⟨(h.1.2 y hy).1.1, (h.1.2 y hy).1.2, (h.1.2 y hy).2⟩⟩, eqvL_eq _ _ h.2⟩
/-- the place that a time tells: by its last two signs -/
noncomputable def plS (x : Str) : Nat := match x.cps.toList.reverse with
  | a :: b :: _ => (a - 48) + if b = 49 then 10 else 0
  | _ => 0
noncomputable def sgn (x : Str) : Nat := (x.cps.toList.filter fun c => c = 43 || c = 45 || c = 46 || c = 95).length
noncomputable def chkT (w m p : Nat) : Bool := tokB (timeS w m p) && verB (timeS w m p) (timeR w p) && decide (plS (alS (timeS w m p)) = p) && decide (alS (auS (timeS w m p)) = alS (timeS w m p)) && decide (sgn (timeS w m p) = 2)
noncomputable def fixW : List (Nat × Nat) := [6040, 102070, 200101, 300010, 100051, 32, 22, 202110, 300121].map fun n => (toldOf n % 13, markOf n)
noncomputable def timeP (w m p : Nat) : Prop := p < 13 ∧ w < 13 ∧ m < 4 ∧ (p < 9 → fixW[p]? = some (w, m))
/-! the same, with what is told named as it is told: less work -/
noncomputable def fedN {α : Type} (n : Nat) (k : Nat → α) : α := match n with
  | .zero => k 0
  | .succ n => k (Nat.succ n)
theorem fedN_eq {α : Type} {n : Nat} {k : Nat → α} : fedN n k = k n := by cases n <;> rfl
noncomputable def feed {α : Type} : List Nat → (List Nat → α) → α
  | [], k => k []
  | c :: l, k => fedN c fun c => feed l fun r => k (c :: r)
theorem feed_eq {α : Type} : ∀ (l : List Nat) (k : List Nat → α), feed l k = k l
  | [], _ => rfl
  | _ :: l, _ => fedN_eq.trans (feed_eq l _)
noncomputable def fed {α : Type} (x : Str) (k : Str → α) : α := feed x.cps.toList fun l => k ⟨⟨l⟩⟩
theorem fed_eq {α : Type} {x : Str} {k : Str → α} : fed x k = k x := feed_eq _ _
noncomputable def sokL (x a : Str) : Bool := asc x && decide (x.length < 100) && noN x && noN a
noncomputable def chkF (w m p : Nat) : Bool := fed (timeS w m p) fun x => fed (alS x) fun a => fed (auS x) fun u => fed (alS u) fun v => (sokL x a && sokL u v) && verB x (timeR w p) && decide (plS a = p) && decide (v = a) && decide (sgn x = 2)
theorem chkF_eq {w m p : Nat} : chkF w m p = chkT w m p := by
  unfold chkF
  rw [fed_eq, fed_eq, fed_eq, fed_eq]
  rfl
noncomputable def chkG (m p : Nat) : Bool := (List.range 13).all fun w => chkF w m p
theorem chk_fix : ((List.range 9).all fun p => chkF ((fixW[p]?).getD (0, 0)).1 ((fixW[p]?).getD (0, 0)).2 p) = true := by decide +kernel
theorem chk_0 : chkG 0 9 = true := by decide +kernel
theorem chk_1 : chkG 1 9 = true := by decide +kernel
theorem chk_2 : chkG 2 9 = true := by decide +kernel
theorem chk_3 : chkG 3 9 = true := by decide +kernel
theorem chk_4 : chkG 0 10 = true := by decide +kernel
theorem chk_5 : chkG 1 10 = true := by decide +kernel
theorem chk_6 : chkG 2 10 = true := by decide +kernel
theorem chk_7 : chkG 3 10 = true := by decide +kernel
theorem chk_8 : chkG 0 11 = true := by decide +kernel
theorem chk_9 : chkG 1 11 = true := by decide +kernel
theorem chk_10 : chkG 2 11 = true := by decide +kernel
theorem chk_11 : chkG 3 11 = true := by decide +kernel
theorem chk_12 : chkG 0 12 = true := by decide +kernel
theorem chk_13 : chkG 1 12 = true := by decide +kernel
theorem chk_14 : chkG 2 12 = true := by decide +kernel
theorem chk_15 : chkG 3 12 = true := by decide +kernel
theorem chk_all : ∀ k, k < 16 → chkG (k % 4) (9 + k / 4) = true
  | 0, _ => chk_0
  | 1, _ => chk_1
  | 2, _ => chk_2
  | 3, _ => chk_3
  | 4, _ => chk_4
  | 5, _ => chk_5
  | 6, _ => chk_6
  | 7, _ => chk_7
  | 8, _ => chk_8
  | 9, _ => chk_9
  | 10, _ => chk_10
  | 11, _ => chk_11
  | 12, _ => chk_12
  | 13, _ => chk_13
  | 14, _ => chk_14
  | 15, _ => chk_15
  | k + 16, h => absurd h (Nat.not_lt_of_le (Nat.le_add_left 16 k))
theorem time_chk {w m p : Nat} (h : timeP w m p) : chkT w m p = true := by
  obtain ⟨h1, h2, h3, h4⟩ := h
  by_cases c : p < 9
  · have := List.all_eq_true.mp chk_fix p (List.mem_range.mpr c)
    rw [h4 c] at this
    exact chkF_eq.symm.trans this
  · have := List.all_eq_true.mp (chk_all ((p - 9) * 4 + m) (by lia)) w (List.mem_range.mpr h2)
    rw [show ((p - 9) * 4 + m) % 4 = m by lia, show 9 + ((p - 9) * 4 + m) / 4 = p by lia] at this
    exact chkF_eq.symm.trans this
noncomputable def keyAt (k : Nat) : Str := keyStr ((k : Int) - 1)
noncomputable def chkK (k : Nat) : Bool := tokB (keyAt k) && verB (keyAt k) (keyR ((k : Int) - 1)) && decide (sgn (keyAt k) ≠ 2) && decide (alS (auS (keyAt k)) = alS (keyAt k)) && (List.range 14).all fun j => decide (alS (keyAt j) = alS (keyAt k) ↔ j = k)
theorem chk_keys : ((List.range 14).all chkK) = true := by decide +kernel
end Mine
set_option maxRecDepth 100000
set_option maxHeartbeats 2000000
namespace Mine
open PySem PySem.W PyProof.Rows PySem.Calls

/-! the strings at hand -/
structure HNum (H : Hx) : Prop where
  n : H.codeN = codeN0
  v : H.codeV = codeV0
  gn : H.gN = 0
  gv : H.gV = 0
theorem time_facts {w m p : Nat} (h : timeP w m p) : tokB (timeS w m p) = true ∧ verB (timeS w m p) (timeR w p) = true ∧ plS (alS (timeS w m p)) = p ∧ alS (auS (timeS w m p)) = alS (timeS w m p) ∧ sgn (timeS w m p) = 2 := by
  have := time_chk h
  unfold chkT at this
  simp only [Bool.and_eq_true, decide_eq_true_eq] at this
  exact ⟨this.1.1.1.1, this.1.1.1.2, this.1.1.2, this.1.2, this.2⟩
noncomputable def keyP (c : Int) : Prop := -1 ≤ c ∧ c < 13
theorem key_facts {c : Int} (h : keyP c) : tokB (keyStr c) = true ∧ verB (keyStr c) (keyR c) = true ∧ sgn (keyStr c) ≠ 2 ∧ alS (auS (keyStr c)) = alS (keyStr c) ∧ ∀ d, keyP d → (alS (keyStr d) = alS (keyStr c) ↔ d = c) := by
  have f : ∀ c, keyP c → ∃ k : Nat, k < 14 ∧ c = (k : Int) - 1 := fun c h => ⟨(c + 1).toNat, by have := h.1; have := h.2; lia, by have := h.1; lia⟩
  obtain ⟨k, hk, rfl⟩ := f c h
  have := List.all_eq_true.mp chk_keys k (List.mem_range.mpr hk)
  unfold chkK at this
  simp only [Bool.and_eq_true, decide_eq_true_eq, List.all_eq_true] at this
  refine ⟨this.1.1.1.1, this.1.1.1.2, this.1.1.2, this.1.2, fun d hd => ?_⟩
  obtain ⟨j, hj, rfl⟩ := f d hd
  have := this.2 j (List.mem_range.mpr hj)
  refine Iff.trans this ⟨fun e => by rw [e], fun e => by lia⟩
theorem tokB_asc {x : Str} (h : tokB x = true) : asc x = true ∧ x.length < 1000 := by
  have h1 := (Bool.and_eq_true_iff.mp h).1
  unfold sokB at h1
  simp only [Bool.and_eq_true, decide_eq_true_eq] at h1
  exact ⟨h1.1.1.1, Nat.lt_trans h1.1.1.2 (by decide)⟩
theorem low_up {x : Str} (h : asc x = true) (e : alS (auS x) = alS x) : Txt.lower (Txt.upper x) = Txt.lower x := by
  rw [upper_asc h, lower_asc (x := auS x) (asc_map h fun _ => auC_lt), lower_asc h, e]
theorem time_low {w m p : Nat} (h : timeP w m p) : Txt.lower (Txt.upper (timeS w m p)) = Txt.lower (timeS w m p) ∧ plS (Txt.lower (timeS w m p)) = p := by
  obtain ⟨a, _, b, c, _⟩ := time_facts h
  exact ⟨low_up (tokB_asc a).1 c, by rw [lower_asc (tokB_asc a).1]; exact b⟩
theorem key_low {c : Int} (h : keyP c) : Txt.lower (Txt.upper (keyStr c)) = Txt.lower (keyStr c) := by
  obtain ⟨a, _, _, d, _⟩ := key_facts h
  exact low_up (tokB_asc a).1 d
theorem key_low_iff {c d : Int} (h : keyP c) (h' : keyP d) : Txt.lower (keyStr d) = Txt.lower (keyStr c) ↔ d = c := by
  obtain ⟨a, _, _, _, e⟩ := key_facts h
  rw [lower_asc (tokB_asc a).1, lower_asc (tokB_asc (key_facts h').1).1]
  exact e d h'
theorem key_nil {c : Int} (h : keyP c) : keyStr c = "" ↔ c < 0 := by
  constructor
  · intro e
    have : keyStr (-1) = "" := rfl
    have := (key_low_iff (c := -1) ⟨by decide, by decide⟩ h).mp (by rw [e, this])
    lia
  · intro e; unfold keyStr; rw [if_pos e]
theorem key_ne_time {c : Int} {w m p : Nat} (h : keyP c) (h' : timeP w m p) : keyStr c ≠ timeS w m p := fun e => (key_facts h).2.2.1 (e ▸ (time_facts h').2.2.2.2)

/-! the times of the draws -/
noncomputable def wAt (ns : List Nat) (p : Nat) : Nat := toldOf ((ns[p]?).getD 0) % 13
noncomputable def mAt (ns : List Nat) (p : Nat) : Nat := markOf ((ns[p]?).getD 0)
noncomputable def TT (ns : List Nat) (p : Nat) : Str := timeS (wAt ns p) (mAt ns p) p
noncomputable def Draws (ns : List Nat) : Prop := ns.length ≤ 13 ∧ ∀ p, p < ns.length → timeP (wAt ns p) (mAt ns p) p
noncomputable def rowD (ns : List Nat) (d : Dd) : Row := (TT ns d.2.1, keyStr d.2.2)
noncomputable def prH (ns : List Nat) (h : Hh) : Row := (keyStr h.1, TT ns h.2.2)
section
variable {ns : List Nat} (hn : Draws ns)
include hn
theorem TT_inj {p p' : Nat} (h : p < ns.length) (h' : p' < ns.length) (e : Txt.lower (TT ns p) = Txt.lower (TT ns p')) : p = p' := by
  rw [← (time_low (hn.2 p h)).2, ← (time_low (hn.2 p' h')).2]
  exact congrArg plS e
end
/-- a deed of the first j draws -/
structure DP (ns : List Nat) (j : Nat) (d : Dd) : Prop where
  p : d.2.1 < j
  w : d.1 = wAt ns d.2.1
  k : keyP d.2.2
theorem prH_row {ns : List Nat} {d : Dd} (h : ¬ d.2.2 < 0) : prH ns (hOf d) = swapR (rowD ns d) := by
  show (keyStr ((d.2.2.toNat : Nat) : Int), _) = (keyStr d.2.2, _)
  rw [Int.toNat_of_nonneg (by lia)]
  rfl
section
variable {ns : List Nat} {j : Nat} {ds : List Dd}
/-- where the present has a deed's pair -/
theorem there_eq (hn : Draws ns) (hj : j ≤ ns.length) (hd : ∀ d, d ∈ ds → DP ns j d) (ok : DdOk ds) {q : List Row} {F : List Hh} (hF : ∀ h, h ∈ F → ∃ d, d ∈ ds ∧ ¬ d.2.2 < 0 ∧ h = hOf d) (hq : q.Perm (F.map (prH ns))) {d : Dd} (hm : d ∈ ds) : thereOf q (rowD ns d) = th (F.map rkH) d := by
  have hk := (hd d hm).k
  have place : ∀ d', d' ∈ ds → d'.2.1 = d.2.1 → d' = d := fun d' h' e => nodup_inj ok.nd h' hm e
  rw [Bool.eq_iff_iff]
  unfold thereOf
  rw [List.any_eq_true]
  constructor
  · rintro ⟨y, hy, e⟩
    have e := of_decide_eq_true e
    obtain ⟨x, hx, rfl⟩ := List.mem_map.mp hy
    obtain ⟨hx, _⟩ := List.mem_filter.mp hx
    obtain ⟨h, hh, rfl⟩ := List.mem_map.mp (hq.subset hx)
    obtain ⟨d', h', nn, rfl⟩ := hF h hh
    have e : TT ns d'.2.1 = TT ns d.2.1 := e
    have := place d' h' (TT_inj hn (Nat.lt_of_lt_of_le (hd d' h').p hj) (Nat.lt_of_lt_of_le (hd d hm).p hj) (congrArg _ e))
    subst this
    rw [th_eq nn]
    exact decide_eq_true (List.mem_map_of_mem hh)
  · intro h
    obtain ⟨nn, hr⟩ := th_lays h
    obtain ⟨h1, hh, e⟩ := List.mem_map.mp hr
    obtain ⟨d', h', nn', rfl⟩ := hF h1 hh
    have e1 : d'.2.1 = d.2.1 := by
      rw [← rkH_place (ok.small d' h').2.1, ← rkH_place (ok.small d hm).2.1, e]
    have := place d' h' e1
    subst this
    refine ⟨TT ns d'.2.1, List.mem_map.mpr ⟨prH ns (hOf d'), List.mem_filter.mpr ⟨hq.symm.subset (List.mem_map_of_mem hh), ?_⟩, rfl⟩, decide_eq_true rfl⟩
    rw [prH_row nn]
    show decide (Txt.lower (keyStr d'.2.2) = Txt.lower (Txt.upper (keyStr d'.2.2))) = true
    exact decide_eq_true (key_low hk).symm
end
end Mine
set_option maxRecDepth 100000
set_option maxHeartbeats 2000000
namespace Mine
open PySem PySem.W PyProof.Rows PySem.Calls

theorem eqvAll_app : ∀ (a b t t' : List PyData), a.length = b.length → PyData.eqvAll (a ++ t) (b ++ t') = (PyData.eqvAll a b && PyData.eqvAll t t')
  | [], [], t, t', _ => rfl
  | x :: a, y :: b, t, t', h => by
    show (PyData.eqv x y && PyData.eqvAll (a ++ t) (b ++ t')) = ((PyData.eqv x y && PyData.eqvAll a b) && PyData.eqvAll t t')
    rw [eqvAll_app a b t t' (Nat.succ.inj h), Bool.and_assoc]
theorem ltdL_cons {x y : PyData} {a b : List PyData} : ltdL (x :: a) (y :: b) = if PyData.eqv x y = true then ltdL a b else ltd x y := rfl
theorem ltdL_app : ∀ (a b t t' : List PyData), a.length = b.length → ltdL (a ++ t) (b ++ t') = if PyData.eqvAll a b = true then ltdL t t' else ltdL a b
  | [], [], t, t', _ => rfl
  | x :: a, y :: b, t, t', h => by
    show ltdL (x :: (a ++ t)) (y :: (b ++ t')) = if (PyData.eqv x y && PyData.eqvAll a b) = true then ltdL t t' else ltdL (x :: a) (y :: b)
    rw [ltdL_cons, ltdL_cons, ltdL_app a b t t' (Nat.succ.inj h)]
    cases PyData.eqv x y with
    | true => simp only [Bool.true_and, if_true]
    | false => simp only [Bool.false_and, Bool.false_eq_true, if_false]
theorem tab_rank : ∀ w, w < 13 → ∀ w', w' < 13 → PyData.eqvAll (rankD w) (rankD w') = decide (w = w') ∧ (w ≠ w' → ltdL (rankD w) (rankD w') = some (decide (w < w'))) ∧ PyData.depthAll (rankD w) = 0 := by decide +kernel
noncomputable def tailT (p : Nat) : List PyData := [.int 100, .int (p : Int)]
theorem tail_eqv {p p' : Nat} : PyData.eqvAll (tailT p) (tailT p') = decide (p = p') := by
  show (PyData.eqv (.int 100) (.int 100) && (PyData.eqv (.int (p : Int)) (.int (p' : Int)) && true)) = _
  rw [eqv_int, eqv_int, decide_eq_true rfl, Bool.true_and, Bool.and_true]
  exact decide_eq_decide.mpr Int.ofNat_inj
theorem tail_lt {p p' : Nat} : ltdL (tailT p) (tailT p') = some (decide (p < p')) := by
  show (if PyData.eqv (.int 100) (.int 100) = true then (if PyData.eqv (.int (p : Int)) (.int (p' : Int)) = true then some false else some (decide ((p : Int) < p'))) else _) = _
  rw [if_pos (by rw [eqv_int]; rfl), eqv_int]
  by_cases h : p = p'
  · rw [if_pos (decide_eq_true (congrArg _ h)), h, decide_eq_false (Nat.lt_irrefl _)]
  · rw [if_neg (by rw [decide_eq_true_eq]; exact fun e => h (Int.ofNat_inj.mp e))]
    exact congrArg some (decide_eq_decide.mpr Int.ofNat_lt)
theorem time_eqv {w w' p p' : Nat} (h : w < 13) (h' : w' < 13) : PyData.eqv (.list (timeR w p)) (.list (timeR w' p')) = (decide (w = w') && decide (p = p')) := by
  show PyData.eqvAll (rankD w ++ tailT p) (rankD w' ++ tailT p') = _
  rw [eqvAll_app (rankD w) (rankD w') _ _ rfl, (tab_rank w h w' h').1, tail_eqv]
theorem lex {w w' p p' : Nat} (hp : p < 64) (hp' : p' < 64) : decide (w * 64 + p < w' * 64 + p') = if w = w' then decide (p < p') else decide (w < w') := by
  split
  · rename_i e; rw [e]; exact decide_eq_decide.mpr (by lia)
  · exact decide_eq_decide.mpr (by lia)
theorem time_lt {w w' p p' : Nat} (h : w < 13) (h' : w' < 13) (hp : p < 64) (hp' : p' < 64) : ltd (.list (timeR w p)) (.list (timeR w' p')) = some (decide (w * 64 + p < w' * 64 + p')) := by
  show ltdL (rankD w ++ tailT p) (rankD w' ++ tailT p') = _
  rw [ltdL_app (rankD w) (rankD w') _ _ rfl, (tab_rank w h w' h').1, tail_lt, lex hp hp']
  by_cases e : w = w'
  · rw [if_pos (decide_eq_true e), if_pos e]
  · rw [if_neg (by rw [decide_eq_true_eq]; exact e), if_neg e, (tab_rank w h w' h').2.1 e]
theorem key_lt {c c' w w' p p' : Nat} (hc : c < 13) (hc' : c' < 13) (h : w < 13) (h' : w' < 13) (hp : p < 64) (hp' : p' < 64) : ltd (.tuple [.list (rankD c), .list (timeR w p)]) (.tuple [.list (rankD c'), .list (timeR w' p')]) = some (decide ((c * 16 + w) * 64 + p < (c' * 16 + w') * 64 + p')) := by
  show ltdL [.list (rankD c), .list (timeR w p)] [.list (rankD c'), .list (timeR w' p')] = _
  have e1 : PyData.eqv (.list (rankD c)) (.list (rankD c')) = decide (c = c') := (tab_rank c hc c' hc').1
  rw [ltdL_cons, ltdL_cons, e1, time_eqv h h', time_lt h h' hp hp']
  by_cases e : c = c'
  · rw [if_pos (decide_eq_true e), e]
    split
    · rename_i g
      obtain ⟨g1, g2⟩ := Bool.and_eq_true_iff.mp g
      rw [of_decide_eq_true g1, of_decide_eq_true g2, decide_eq_false (Nat.lt_irrefl _)]
      rfl
    · exact congrArg some (decide_eq_decide.mpr (by lia))
  · rw [if_neg (by rw [decide_eq_true_eq]; exact e)]
    refine ((tab_rank c hc c' hc').2.1 e).trans (congrArg some (decide_eq_decide.mpr (by lia)))
theorem depthAll_app : ∀ a b : List PyData, PyData.depthAll (a ++ b) = max (PyData.depthAll a) (PyData.depthAll b)
  | [], b => (Nat.zero_max _).symm
  | x :: a, b => by
    show max x.depth (PyData.depthAll (a ++ b)) = max (max x.depth (PyData.depthAll a)) _
    rw [depthAll_app a b, Nat.max_assoc]
theorem time_depth {w p : Nat} (h : w < 13) : (PyData.list (timeR w p)).depth = 1 := by
  show PyData.depthAll (rankD w ++ tailT p) + 1 = 1
  rw [depthAll_app, (tab_rank w h w h).2.2]; rfl
theorem key_depth {c w p : Nat} (hc : c < 13) (h : w < 13) : (PyData.tuple [.list (rankD c), .list (timeR w p)]).depth = 2 := by
  show max (PyData.depthAll (rankD c) + 1) (max (PyData.list (timeR w p)).depth 0) + 1 = 2
  rw [(tab_rank c hc c hc).2.2, time_depth h]; rfl

/-! ranks of rows -/
noncomputable def ddOf (row : Dd → Row) (al : List Dd) (r : Row) : Dd := (al.find? fun d => decide (row d = r)).getD (0, 0, 0)
theorem ddOf_eq {row : Dd → Row} {al : List Dd} (h : ∀ a b, a ∈ al → b ∈ al → (row a).1 = (row b).1 → a = b) {d : Dd} (hd : d ∈ al) : ddOf row al (row d) = d := by
  unfold ddOf
  cases e : al.find? fun x => decide (row x = row d) with
  | none => exact absurd (decide_eq_true rfl) (List.find?_eq_none.mp e d hd)
  | some x => exact h x d (List.mem_of_find?_eq_some e) hd (congrArg Prod.fst (of_decide_eq_true (List.find?_some (p := fun x => decide (row x = row d)) e)))
end Mine
set_option maxRecDepth 100000
set_option maxHeartbeats 2000000
namespace Mine
open PySem PySem.W PyProof.Rows PySem.Calls

theorem left_from {ds : List Dd} {F : List Hh} (hF : leftOf ds = some F) : ∀ h, h ∈ F → ∃ d, d ∈ ds ∧ ¬ d.2.2 < 0 ∧ h = hOf d := fun h hh => by
  rcases leftR_from _ _ _ hF h hh with c | ⟨d, a, b⟩
  · cases c
  · exact ⟨d, sortBy_perm.subset a, b⟩
theorem left_len {ds : List Dd} {F : List Hh} (hF : leftOf ds = some F) : F.length ≤ ds.length := by
  obtain ⟨T, r⟩ := leftR_run _ _ _ hF
  have := r.all.length_eq
  rw [List.length_append, List.length_append] at this
  have h4 : (F.map rkH).length = F.length := List.length_map ..
  have h2 : (lays ((sortBy rkD ds).map encO)).length ≤ (sortBy rkD ds).length := by
    have := List.length_filterMap_le id ((sortBy rkD ds).map encO)
    rw [List.length_map] at this
    exact this
  rw [(sortBy_perm (rk := rkD) (xs := ds)).length_eq] at h2
  have h3 : ([].map rkH : List Nat).length = 0 := rfl
  lia
section
variable {ns : List Nat} {j : Nat} {al ds later : List Dd}
theorem DP.le {j' : Nat} (h : j ≤ j') {d : Dd} (hd : DP ns j d) : DP ns j' d := ⟨Nat.lt_of_lt_of_le hd.p h, hd.w, hd.k⟩
theorem nm_of (hn : Draws ns) (hj : j ≤ ns.length) (hd : ∀ d, d ∈ al → DP ns j d) (ok : DdOk al) : Nm (rowD ns) al :=
  ⟨fun a b ha hb e => nodup_inj ok.nd ha hb (TT_inj hn (Nat.lt_of_lt_of_le (hd a ha).p hj) (Nat.lt_of_lt_of_le (hd b hb).p hj) (congrArg _ e)), fun d h => key_nil (hd d h).k⟩
noncomputable def rkTf (ns : List Nat) (al : List Dd) (r : Row) : Nat := rkD (ddOf (rowD ns) al r)
noncomputable def rkKf (ns : List Nat) (al : List Dd) (r : Row) : Nat := rkH (hOf (ddOf (rowD ns) al r))
theorem rk_of (nm : Nm (rowD ns) al) : Rk (rowD ns) al (rkTf ns al) (rkKf ns al) :=
  ⟨fun _ hd => congrArg rkD (ddOf_eq nm.inj hd), fun _ hd => congrArg (fun d => rkH (hOf d)) (ddOf_eq nm.inj hd)⟩
theorem pr_nodup (hn : Draws ns) (hj : j ≤ ns.length) (hd : ∀ d, d ∈ ds → DP ns j d) (ok : DdOk ds) {F : List Hh} (hF : leftOf ds = some F) : (F.map (prH ns)).Nodup := by
  obtain ⟨T, r⟩ := leftR_run _ _ _ hF
  have nd := (List.nodup_append.mp (r.all.nodup (ok.perm sortBy_perm.symm).lays)).2.1
  rw [List.Nodup, List.pairwise_map] at nd ⊢
  refine nd.imp_of_mem fun {a b} ha hb ne e => ne ?_
  obtain ⟨d, h1, h2, rfl⟩ := left_from hF a ha
  obtain ⟨d', h1', h2', rfl⟩ := left_from hF b hb
  have e := congrArg Prod.snd e
  have := nodup_inj ok.nd h1 h1' (TT_inj hn (Nat.lt_of_lt_of_le (hd d h1).p hj) (Nat.lt_of_lt_of_le (hd d' h1').p hj) (congrArg _ e))
  rw [this]
/-- the present after a change: as the law tells it -/
theorem chg_new {dn : Dd} {kind : Nat} {F F' : List Hh} {q : List Row} {rkT rkK : Row → Nat} (h : Chg (rowD ns) al ds later dn kind F F' q rkT rkK) (hn : Draws ns) (hj : j ≤ ns.length) (hd : ∀ d, d ∈ al → DP ns j d) (ok : DdOk later) (hq : q.Perm (F.map (prH ns))) :
    changeQ rkT rkK (ds.map (rowD ns)) q kind (rowD ns dn) = newPairs q (F'.map (prH ns)) ∧ (newPairs q (F'.map (prH ns))).Perm (F'.map (prH ns)) := by
  have nd := pr_nodup hn hj (fun d hm => hd d (h.sub.1 d hm)) h.okS h.f
  have nd' := pr_nodup hn hj (fun d hm => hd d (h.sub.2 d hm)) ok h.f'
  cases hu : isUp kind (rowD ns dn) with
  | true =>
    obtain ⟨d, d1, d2, e, p⟩ := h.up hu
    have p2 : (F'.map (prH ns)).Perm (swapR (rowD ns d) :: q) := by
      rw [← prH_row d2]
      exact (p.map (prH ns)).trans (hq.symm.cons _)
    rw [e, new_come p2 (p2.nodup nd')]
    exact ⟨rfl, (List.perm_append_comm (l₁ := q)).trans p2.symm⟩
  | false =>
    obtain ⟨d, d1, d2, e, p⟩ := h.down hu
    have p2 : q.Perm (swapR (rowD ns d) :: F'.map (prH ns)) := by
      rw [← prH_row d2]
      exact hq.trans (p.map (prH ns))
    have nd2 := p2.nodup (hq.symm.nodup nd)
    have kq : ∀ x, x ∈ q → ∃ c, keyP c ∧ x.1 = keyStr c := fun x hx => by
      obtain ⟨y, hy, rfl⟩ := List.mem_map.mp (hq.subset hx)
      obtain ⟨d', a, b, rfl⟩ := left_from h.f y hy
      rw [prH_row b]
      exact ⟨_, (hd d' (h.sub.1 d' a)).k, rfl⟩
    have iff : ∀ x, x ∈ q → (Txt.lower x.1 = Txt.lower (swapR (rowD ns d)).1 ↔ x.1 = (swapR (rowD ns d)).1) := fun x hx => by
      obtain ⟨c, h1, h2⟩ := kq x hx
      rw [h2]
      exact ⟨fun e => congrArg keyStr ((key_low_iff (hd d d1).k h1).mp e), fun e => congrArg Txt.lower e⟩
    have e2 := goes_eq (q := q) (g := swapR (rowD ns d)) (fun x hx => by rw [show Txt.lower (Txt.upper (swapR (rowD ns d)).1) = Txt.lower (swapR (rowD ns d)).1 from key_low (hd d d1).k]; exact iff x hx) iff
    rw [e, new_gone p2 nd2]
    exact ⟨e2, went_perm p2 nd2⟩
end
end Mine
set_option maxRecDepth 100000
set_option maxHeartbeats 2000000
namespace Mine
open PySem PySem.W PyProof.Rows PySem.Calls

/-- the past and the present behind j draws -/
structure KInv (ns : List Nat) (j : Nat) (st : KS) : Prop where
  times : st.times = (List.range j).map (TT ns)
  ok : DdOk st.deeds
  len : st.deeds.length ≤ j
  dp : ∀ d, d ∈ st.deeds → DP ns j d
  log : st.log = st.deeds.map (rowD ns)
  pairs : ∃ F, leftOf st.deeds = some F ∧ st.pairs.Perm (F.map (prH ns))
  kv : ∀ x v, (x, v) ∈ st.kvs → (∃ c, keyP c ∧ x = keyStr c ∧ v = .list (keyR c)) ∨ ∃ p, p < j ∧ x = TT ns p ∧ v = .list (timeR (wAt ns p) p)
  has : ∀ d, d ∈ st.deeds → (∃ v, (TT ns d.2.1, v) ∈ st.kvs) ∧ ∃ v, (keyStr d.2.2, v) ∈ st.kvs
  kn : st.kn ≤ 2 * j
theorem kinv0 (ns : List Nat) : KInv ns 0 ks0 :=
  ⟨rfl, ⟨nofun, List.nodup_nil, by decide⟩, Nat.le_refl _, nofun, rfl, ⟨[], by decide +kernel, List.Perm.refl _⟩, nofun, nofun, Nat.le_refl _⟩
section
variable {ns : List Nat} {j n : Nat} {st : KS}
theorem lookup_mem {x : Str} {l : List (Str × PyData)} : (∃ v, (x, v) ∈ l) → ∃ v, l.lookup x = some v ∧ (x, v) ∈ l := by
  induction l with
  | nil => exact fun ⟨_, h⟩ => nomatch h
  | cons a l ih =>
    rintro ⟨v, h⟩
    rw [List.lookup_cons]
    cases hb : x == a.1 with
    | true => exact ⟨a.2, rfl, by rw [beq_iff_eq.mp hb]; exact .head _⟩
    | false =>
      have : (x, v) ∈ l := (List.mem_cons.mp h).resolve_left fun e => by rw [← e] at hb; simp at hb
      obtain ⟨u, h1, h2⟩ := ih ⟨v, this⟩
      exact ⟨u, h1, .tail _ h2⟩
theorem kv_time (hn : Draws ns) (hj : j ≤ ns.length) {kvs : List (Str × PyData)} (kv : ∀ x v, (x, v) ∈ kvs → (∃ c, keyP c ∧ x = keyStr c ∧ v = .list (keyR c)) ∨ ∃ p, p < j ∧ x = TT ns p ∧ v = .list (timeR (wAt ns p) p)) {p : Nat} (hp : p < j) (h : ∃ v, (TT ns p, v) ∈ kvs) : kvs.lookup (TT ns p) = some (.list (timeR (wAt ns p) p)) := by
  obtain ⟨v, h1, h2⟩ := lookup_mem h
  rw [h1]
  rcases kv _ _ h2 with ⟨c, c1, c2, _⟩ | ⟨p', p1, p2, rfl⟩
  · exact absurd c2.symm (key_ne_time c1 (hn.2 p (Nat.lt_of_lt_of_le hp hj)))
  · rw [TT_inj hn (Nat.lt_of_lt_of_le hp hj) (Nat.lt_of_lt_of_le p1 hj) (congrArg _ p2)]
theorem kv_key (hn : Draws ns) (hj : j ≤ ns.length) {kvs : List (Str × PyData)} (kv : ∀ x v, (x, v) ∈ kvs → (∃ c, keyP c ∧ x = keyStr c ∧ v = .list (keyR c)) ∨ ∃ p, p < j ∧ x = TT ns p ∧ v = .list (timeR (wAt ns p) p)) {c : Int} (hc : keyP c) (h : ∃ v, (keyStr c, v) ∈ kvs) : kvs.lookup (keyStr c) = some (.list (keyR c)) := by
  obtain ⟨v, h1, h2⟩ := lookup_mem h
  rw [h1]
  rcases kv _ _ h2 with ⟨c', c1, c2, rfl⟩ | ⟨p', p1, p2, rfl⟩
  · rw [(key_low_iff c1 hc).mp (congrArg _ c2)]
  · exact absurd p2 (key_ne_time hc (hn.2 p' (Nat.lt_of_lt_of_le p1 hj)))
theorem times_get {p : Nat} (h : p < j) : (((List.range j).map (TT ns))[p]?).getD "" = TT ns p := by
  rw [List.getElem?_map, List.getElem?_range h]; rfl
theorem draw_at (h : ns[j]? = some n) : j < ns.length ∧ wAt ns j = toldOf n % 13 ∧ TT ns j = timeS (toldOf n % 13) (markOf n) j := by
  refine ⟨(List.getElem?_eq_some_iff.mp h).1, ?_, ?_⟩
  · unfold wAt; rw [h]; rfl
  · unfold TT wAt mAt; rw [h]; rfl
theorem code_ok (n : Nat) : keyP (codeOf n) ∧ (kindOf n = 0 → ¬ codeOf n < 0) ∧ (kindOf n ≠ 0 → codeOf n < 0) := by
  unfold codeOf
  split
  · rename_i h
    exact ⟨⟨by lia, by have := Nat.mod_lt (n / 1000 % 100) (show 13 > 0 by decide); lia⟩, fun _ => by lia, fun c => absurd h c⟩
  · rename_i h
    exact ⟨⟨by decide, by decide⟩, fun c => absurd c h, fun _ => by decide⟩
theorem KInv.times' (h : KInv ns j st) (hs : ns[j]? = some n) : timesOf st n j = (List.range (j + 1)).map (TT ns) := by
  unfold timesOf
  rw [h.times, List.range_succ, List.map_append, List.map_singleton, (draw_at hs).2.2]
/-- the deed at hand -/
noncomputable def dnOf (st : KS) (n j : Nat) : Dd := if kindOf n = 2 then (st.deeds[whichOf st n]?).getD (0, 0, 0) else (toldOf n % 13, j, codeOf n)
noncomputable def alOf (st : KS) (n j : Nat) : List Dd := dnOf st n j :: if kindOf n = 2 then laterOf st n j else st.deeds
theorem dnP (hs : ns[j]? = some n) (hk : kindOf n ≠ 2) : DP ns (j + 1) (dnOf st n j) := by
  unfold dnOf
  rw [if_neg hk]
  exact ⟨Nat.lt_succ_self _, (draw_at hs).2.1.symm, (code_ok n).1⟩
theorem later_sub {d : Dd} (hk : kindOf n = 2) (hd : d ∈ laterOf st n j) : d ∈ st.deeds := by
  unfold laterOf at hd
  rw [if_pos hk] at hd
  exact (List.mem_append.mp hd).elim List.mem_of_mem_take List.mem_of_mem_drop
theorem KInv.laterP (h : KInv ns j st) (hs : ns[j]? = some n) : ∀ d, d ∈ laterOf st n j → DP ns (j + 1) d := fun d hd => by
  by_cases hk : kindOf n = 2
  · exact (h.dp d (later_sub hk hd)).le (Nat.le_succ _)
  · have dn := dnP (st := st) hs hk
    unfold laterOf at hd
    unfold dnOf at dn
    rw [if_neg hk] at hd dn
    rcases List.mem_append.mp hd with c | c
    · exact (h.dp d c).le (Nat.le_succ _)
    · rw [List.mem_singleton.mp c]; exact dn
theorem KInv.laterOk (h : KInv ns j st) (hn : Draws ns) (hs : ns[j]? = some n) : DdOk (laterOf st n j) := by
  have hl := (draw_at hs).1
  have hl2 := hn.1
  have h3 := h.len
  by_cases hk : kindOf n = 2
  · have sub : (laterOf st n j).Sublist st.deeds := by
      unfold laterOf
      rw [if_pos hk]
      conv => rhs; rw [← List.take_append_drop (whichOf st n) st.deeds]
      exact (List.Sublist.refl _).append (List.drop_sublist_drop_left _ (Nat.le_succ _))
    exact ⟨fun d hd => h.ok.small d (sub.subset hd), (sub.map _).nodup h.ok.nd, Nat.lt_of_le_of_lt sub.length_le h.ok.len⟩
  · refine ⟨fun d hd => ?_, ?_, ?_⟩
    · have dp := h.laterP hs d hd
      have w := (hn.2 d.2.1 (Nat.lt_of_lt_of_le dp.p hl)).2.1
      rw [← dp.w] at w
      exact ⟨Nat.lt_trans w (by decide), Nat.lt_of_lt_of_le dp.p (Nat.le_trans hl (Nat.le_trans hl2 (by decide))), dp.k.2⟩
    · unfold laterOf
      rw [if_neg hk, List.map_append, List.map_singleton]
      refine List.nodup_append.mpr ⟨h.ok.nd, List.nodup_cons.mpr ⟨List.not_mem_nil, List.nodup_nil⟩, fun a ha b hb e => ?_⟩
      obtain ⟨d, hd, rfl⟩ := List.mem_map.mp ha
      have := (h.dp d hd).p
      rw [e, List.mem_singleton.mp hb] at this
      exact Nat.lt_irrefl _ this
    · unfold laterOf
      rw [if_neg hk, List.length_append]
      show _ + 1 < 64
      lia
theorem goes_some {due : List Hh} (h : goes? st n j = some due) : leftOf (laterOf st n j) = some due ∧ (laterOf st n j).length ≠ st.deeds.length := by
  unfold goes? at h
  split at h
  · cases h
  · rename_i d e
    split at h
    · cases h
    · rename_i c
      exact ⟨e.trans h, c⟩
end
end Mine
set_option maxRecDepth 100000
set_option maxHeartbeats 2000000
namespace Mine
open PySem PySem.W PyProof.Rows PySem.Calls

section
variable {ns : List Nat} {j n : Nat} {st : KS}
/-- a step that goes, as a change -/
theorem KInv.chg (h : KInv ns j st) (hn : Draws ns) (hs : ns[j]? = some n) {due F : List Hh} (hg : goes? st n j = some due) (hF : leftOf st.deeds = some F) (hp : st.pairs.Perm (F.map (prH ns))) :
    Chg (rowD ns) (alOf st n j) st.deeds (laterOf st n j) (dnOf st n j) (kindOf n) F due st.pairs (rkTf ns (alOf st n j)) (rkKf ns (alOf st n j)) ∧ deedOf st n j = rowD ns (dnOf st n j) ∧ (∀ d, d ∈ alOf st n j → DP ns (j + 1) d) ∧ (kindOf n = 2 → dnOf st n j ∈ st.deeds ∧ whichOf st n < st.log.length) ∧
      changeL st.log (kindOf n) (deedOf st n j) = (laterOf st n j).map (rowD ns) := by
  obtain ⟨g1, g2⟩ := goes_some hg
  have lok := h.laterOk hn hs
  have lp := h.laterP hs
  have hl := (draw_at hs).1
  have k3 : kindOf n < 3 := Nat.mod_lt _ (by decide)
  have the : ∀ d, d ∈ st.deeds → thereOf st.pairs (rowD ns d) = th (F.map rkH) d := fun d hd => there_eq hn (Nat.le_of_lt hl) h.dp h.ok (left_from hF) hp hd
  have q0 : zOf st.pairs ((sortBy rkD st.deeds).map (rowD ns)) = zD (rowD ns) (F.map rkH) (sortBy rkD st.deeds) := by
    unfold zOf zD
    rw [List.map_map]
    exact List.map_congr_left fun d hd => by show (rowD ns d, thereOf st.pairs (rowD ns d)) = _; rw [the d (sortBy_perm.subset hd)]
  by_cases hk : kindOf n = 2
  · have wl : whichOf st n < st.deeds.length := Nat.lt_of_not_le fun c => g2 (by
      unfold laterOf
      rw [if_pos hk, List.take_of_length_le c, List.drop_of_length_le (Nat.le_succ_of_le c), List.append_nil])
    have ed : st.deeds[whichOf st n]? = some st.deeds[whichOf st n] := List.getElem?_eq_getElem wl
    have e1 : dnOf st n j = st.deeds[whichOf st n] := by unfold dnOf; rw [if_pos hk, ed]; rfl
    have e2 : laterOf st n j = st.deeds.take (whichOf st n) ++ st.deeds.drop (whichOf st n + 1) := if_pos hk
    have e3 : alOf st n j = dnOf st n j :: laterOf st n j := by unfold alOf; rw [if_pos hk]
    have es : st.deeds = st.deeds.take (whichOf st n) ++ dnOf st n j :: st.deeds.drop (whichOf st n + 1) := by
      rw [e1, List.getElem_cons_drop, List.take_append_drop]
    have pm : st.deeds.Perm (dnOf st n j :: laterOf st n j) := by
      conv => lhs; rw [es]
      rw [e2]
      exact List.perm_middle
    have dm : dnOf st n j ∈ st.deeds := pm.symm.subset (.head _)
    have okA : DdOk (alOf st n j) := e3 ▸ h.ok.perm pm
    have dpA : ∀ d, d ∈ alOf st n j → DP ns (j + 1) d := fun d hd => (h.dp d (pm.symm.subset (e3 ▸ hd))).le (Nat.le_succ _)
    have nm := nm_of hn hl dpA okA
    have eD : deedOf st n j = rowD ns (dnOf st n j) := by
      unfold deedOf
      rw [if_pos hk, h.log, List.getElem?_map, ed, e1]; rfl
    refine ⟨⟨okA, nm, rk_of nm, .inr ⟨hk, e3, pm⟩, fun c => absurd (hk.symm.trans c) (by decide), fun c => absurd (hk.symm.trans c) (by decide), hF, g1, q0, fun _ => the _ dm⟩, eD, dpA, fun _ => ⟨dm, by rw [h.log, List.length_map]; exact wl⟩, ?_⟩
    unfold changeL
    rw [if_pos hk, eD, h.log]
    have nt : ∀ d, d ∈ st.deeds → (notN (Txt.upper (rowD ns (dnOf st n j)).1) (rowD ns d) = true ↔ d ≠ dnOf st n j) := fun d hd => by
      unfold notN
      have pl := Nat.lt_of_lt_of_le (h.dp _ dm).p (Nat.le_of_lt hl)
      rw [show Txt.lower (Txt.upper (rowD ns (dnOf st n j)).1) = Txt.lower (TT ns (dnOf st n j).2.1) from (time_low (hn.2 _ pl)).1]
      show (!decide (Txt.lower (TT ns d.2.1) = _)) = true ↔ _
      rw [Bool.not_eq_true', decide_eq_false_iff_not]
      refine not_congr ⟨fun e => nodup_inj h.ok.nd hd dm (TT_inj hn (Nat.lt_of_lt_of_le (h.dp d hd).p (Nat.le_of_lt hl)) pl e), fun e => e ▸ rfl⟩
    have ndd : st.deeds.Nodup := by
      have := h.ok.nd
      rw [List.Nodup, List.pairwise_map] at this
      exact this.imp fun ne e => ne (congrArg (fun d : Dd => d.2.1) e)
    have nl := (List.nodup_cons.mp (pm.nodup ndd)).1
    rw [List.filter_map]
    have e5 : st.deeds.filter (notN (Txt.upper (rowD ns (dnOf st n j)).1) ∘ rowD ns) = laterOf st n j := by
      have keep : ∀ l : List Dd, (∀ d, d ∈ l → d ∈ laterOf st n j) → l.filter (notN (Txt.upper (rowD ns (dnOf st n j)).1) ∘ rowD ns) = l := fun l hl => List.filter_eq_self.mpr fun d hd => (nt d (pm.symm.subset (.tail _ (hl d hd)))).mpr fun e => nl (e ▸ hl d hd)
      conv => lhs; rw [es]
      rw [List.filter_append, List.filter_cons, if_neg (show ¬ (notN (Txt.upper (rowD ns (dnOf st n j)).1) ∘ rowD ns) (dnOf st n j) = true from fun c => (nt _ dm).mp c rfl), keep _ fun d hd => e2 ▸ List.mem_append_left _ hd, keep _ fun d hd => e2 ▸ List.mem_append_right _ hd, e2]
    rw [e5]
  · have e1 : dnOf st n j = (toldOf n % 13, j, codeOf n) := if_neg hk
    have e2 : laterOf st n j = st.deeds ++ [dnOf st n j] := by rw [e1]; exact if_neg hk
    have e3 : alOf st n j = dnOf st n j :: st.deeds := by unfold alOf; rw [if_neg hk]
    have pm : (laterOf st n j).Perm (dnOf st n j :: st.deeds) := by rw [e2]; exact List.perm_append_comm
    have okA : DdOk (alOf st n j) := e3 ▸ lok.perm pm
    have dpA : ∀ d, d ∈ alOf st n j → DP ns (j + 1) d := fun d hd => lp d (pm.symm.subset (e3 ▸ hd))
    have nm := nm_of hn hl dpA okA
    have eD : deedOf st n j = rowD ns (dnOf st n j) := by
      unfold deedOf rowD
      rw [if_neg hk, e1, (draw_at hs).2.2]
    have k2 : kindOf n < 2 := Nat.lt_of_le_of_ne (Nat.le_of_lt_succ k3) hk
    refine ⟨⟨okA, nm, rk_of nm, .inl ⟨k2, e3, pm⟩, fun c => e1 ▸ (code_ok n).2.1 c, fun c => e1 ▸ (code_ok n).2.2 (by rw [c]; decide), hF, g1, q0, fun c => absurd c hk⟩, eD, dpA, fun c => absurd c hk, ?_⟩
    unfold changeL
    rw [if_neg hk, eD, h.log, e2, List.map_append, List.filter_eq_self.mpr fun r hr => ?_]
    · rfl
    · obtain ⟨d, hd, rfl⟩ := List.mem_map.mp hr
      unfold notN
      rw [Bool.not_eq_true', decide_eq_false_iff_not, e1]
      exact fun e => Nat.ne_of_lt (h.dp d hd).p (TT_inj hn (Nat.lt_of_lt_of_le (h.dp d hd).p (Nat.le_of_lt hl)) hl e)
end
end Mine
set_option maxRecDepth 100000
set_option maxHeartbeats 2000000
namespace Mine
open PySem PySem.W PyProof.Rows PySem.Calls

noncomputable def keyTf (ns : List Nat) (al : List Dd) (r : Row) : PyData := .list (timeR (ddOf (rowD ns) al r).1 (ddOf (rowD ns) al r).2.1)
noncomputable def keyKf (ns : List Nat) (al : List Dd) (r : Row) : PyData := .tuple [.list (keyR (ddOf (rowD ns) al r).2.2), .list (timeR (ddOf (rowD ns) al r).1 (ddOf (rowD ns) al r).2.1)]
/-- the table of ranks has what it must -/
noncomputable def KvOk (kvs : List (Str × PyData)) (ns : List Nat) (al : List Dd) : Prop := ∀ d, d ∈ al → kvs.lookup (TT ns d.2.1) = some (.list (timeR d.1 d.2.1)) ∧ kvs.lookup (keyStr d.2.2) = some (.list (keyR d.2.2))
section
variable {ns : List Nat} {j n : Nat} {st : KS} {al : List Dd} {kvs : List (Str × PyData)}
theorem DP.small (hn : Draws ns) (hj : j ≤ ns.length) {d : Dd} (h : DP ns j d) : d.1 < 13 ∧ d.2.1 < 64 := by
  have h1 := Nat.lt_of_lt_of_le h.p hj
  exact ⟨by rw [h.w]; exact (hn.2 _ h1).2.1, Nat.lt_of_lt_of_le h1 (Nat.le_trans hn.1 (by decide))⟩
theorem DP.lay {d : Dd} (h : DP ns j d) (hc : ¬ d.2.2 < 0) : d.2.2.toNat < 13 ∧ keyR d.2.2 = rankD d.2.2.toNat := by
  refine ⟨?_, if_neg hc⟩
  have := h.k.2
  lia
theorem least_ok (hn : Draws ns) (hj : j ≤ ns.length) (hd : ∀ d, d ∈ al → DP ns j d) (nm : Nm (rowD ns) al) (kv : KvOk kvs ns al) {l : List Dd} (hl : ∀ x, x ∈ l → x ∈ al ∧ ¬ x.2.2 < 0) (nd : (lays (l.map encO)).Nodup) (h64 : l.length < 64) : LeastOk kvs (keyKf ns al) (rkKf ns al) (l.map (rowD ns)) := by
  have ek : ∀ d, d ∈ al → keyKf ns al (rowD ns d) = .tuple [.list (keyR d.2.2), .list (timeR d.1 d.2.1)] := fun d hd => by unfold keyKf; rw [ddOf_eq nm.inj hd]
  have er := (rk_of nm).k
  refine ⟨fun r hr => ?_, by rw [List.length_map]; exact h64, ?_, fun a b ha hb _ => ?_, fun a ha => ?_⟩
  · obtain ⟨d, h, rfl⟩ := List.mem_map.mp hr
    exact ⟨_, _, (kv d (hl d h).1).2, (kv d (hl d h).1).1, ek d (hl d h).1⟩
  · rw [List.map_map, show l.map (rkKf ns al ∘ rowD ns) = l.map fun d => rkH (hOf d) from List.map_congr_left fun d h => er d (hl d h).1]
    exact rk_nd (fun d h => (hl d h).2) nd
  · obtain ⟨d, h, rfl⟩ := List.mem_map.mp ha
    obtain ⟨d', h', rfl⟩ := List.mem_map.mp hb
    obtain ⟨m, c⟩ := hl d h
    obtain ⟨m', c'⟩ := hl d' h'
    rw [ek d m, ek d' m', er d m, er d' m', ((hd d m).lay c).2, ((hd d' m').lay c').2]
    exact key_lt ((hd d m).lay c).1 ((hd d' m').lay c').1 ((hd d m).small hn hj).1 ((hd d' m').small hn hj).1 ((hd d m).small hn hj).2 ((hd d' m').small hn hj).2
  · obtain ⟨d, h, rfl⟩ := List.mem_map.mp ha
    obtain ⟨m, c⟩ := hl d h
    rw [ek d m, ((hd d m).lay c).2, key_depth ((hd d m).lay c).1 ((hd d m).small hn hj).1]
    decide
theorem tok_row {H : Hx} (hH : HNum H) (hn : Draws ns) (hj : j ≤ ns.length) {d : Dd} (h : DP ns j d) : TOk H (rowD ns d).1 ∧ TOk H (rowD ns d).2 :=
  ⟨tok_of hH.n hH.v hH.gn hH.gv (time_facts (hn.2 _ (Nat.lt_of_lt_of_le h.p hj))).1, tok_of hH.n hH.v hH.gn hH.gv (key_facts h.k).1⟩
theorem chok_of {H : Hx} (hH : HNum H) (hn : Draws ns) (hj : j ≤ ns.length) {ds later : List Dd} {dn : Dd} {kind : Nat} {F F' : List Hh} {q : List Row} (h : Chg (rowD ns) al ds later dn kind F F' q (rkTf ns al) (rkKf ns al)) (hd : ∀ d, d ∈ al → DP ns j d) (kv : KvOk kvs ns al) (hq : q.Perm (F.map (prH ns))) (k3 : kind < 3) (hl : ds.length < 60) (hdn : dn ∈ al) (k2 : kind = 2 → dn ∈ ds) :
    ChOk H kvs (keyTf ns al) (keyKf ns al) (rkTf ns al) (rkKf ns al) (ds.map (rowD ns)) q kind (rowD ns dn) := by
  have nm := h.nm
  have ek : ∀ d, d ∈ al → keyTf ns al (rowD ns d) = .list (timeR d.1 d.2.1) := fun d hd => by unfold keyTf; rw [ddOf_eq nm.inj hd]
  have of : ∀ r, r ∈ ds.map (rowD ns) ∨ r = rowD ns dn → ∃ d, d ∈ al ∧ r = rowD ns d := fun r hr => by
    rcases hr with hr | rfl
    · obtain ⟨d, hm, rfl⟩ := List.mem_map.mp hr
      exact ⟨d, h.sub.1 d hm, rfl⟩
    · exact ⟨dn, hdn, rfl⟩
  have tk : ∀ r, r ∈ ds.map (rowD ns) ∨ r = rowD ns dn → TOk H r.1 ∧ TOk H r.2 := fun r hr => by
    obtain ⟨d, hm, rfl⟩ := of r hr
    exact tok_row hH hn hj (hd d hm)
  obtain ⟨P, R, hs, hp, _⟩ := h.split
  refine ⟨k3, fun r hr => tk r (.inl hr), fun r hr => ?_, tk _ (.inr rfl), by rw [List.length_map]; exact hl, ?_, fun r hr => ?_, ?_, fun a b ha hb => ?_, fun r hr => ?_, fun c => ?_, fun _ => ?_, fun c _ u => ?_, fun _ => ?_⟩
  · obtain ⟨x, hx, rfl⟩ := List.mem_map.mp (hq.subset hr)
    obtain ⟨d, d1, d2, rfl⟩ := left_from h.f x hx
    rw [prH_row d2]
    exact (tk _ (.inl (List.mem_map_of_mem d1))).symm
  · rw [hq.length_eq, List.length_map]
    exact Nat.lt_of_le_of_lt (left_len h.f) hl
  · obtain ⟨d, hm, rfl⟩ := of r hr
    exact ⟨_, (kv d hm).1, ek d hm⟩
  · rw [List.map_map, show ds.map (rkTf ns al ∘ rowD ns) = ds.map rkD from List.map_congr_left fun d hm => h.rk.t d (h.sub.1 d hm)]
    exact h.okS.rk
  · obtain ⟨d, hm, rfl⟩ := of a (.inl ha)
    obtain ⟨d', hm', rfl⟩ := of b hb
    rw [ek d hm, ek d' hm', h.rk.t d hm, h.rk.t d' hm']
    exact time_lt ((hd d hm).small hn hj).1 ((hd d' hm').small hn hj).1 ((hd d hm).small hn hj).2 ((hd d' hm').small hn hj).2
  · obtain ⟨d, hm, rfl⟩ := of r hr
    rw [ek d hm, time_depth ((hd d hm).small hn hj).1]
    decide
  · rw [hp, h.rows]
    rcases hs with ⟨c2, _, _⟩ | ⟨_, e, _⟩
    · exact absurd (Nat.lt_of_le_of_lt (Nat.le_of_eq c.symm) c2) (Nat.lt_irrefl 2)
    · rw [e, List.getElem?_map, List.getElem?_append_right (Nat.le_refl _), Nat.sub_self]
      rfl
  · rw [h.candUp]
    obtain ⟨o1, o2, o3⟩ := h.upOk (beginOf (bridgesL (zOf q (sortBy (rkTf ns al) (ds.map (rowD ns)))) (zOf q (sortBy (rkTf ns al) (ds.map (rowD ns)))).length) (placeOf (rkTf ns al) (sortBy (rkTf ns al) (ds.map (rowD ns))) (rowD ns dn)))
    exact least_ok hn hj hd nm kv o1 o2 o3
  · have cn : ¬ dn.2.2 < 0 := fun m => by
      have := (nm.key dn hdn).mpr m
      unfold isUp at u
      rw [decide_eq_true c, decide_eq_true this, Bool.and_self, Bool.or_true] at u
      cases u
    exact least_ok (l := [dn]) hn hj hd nm kv (fun x hx => List.mem_singleton.mp hx ▸ ⟨hdn, cn⟩) (by rw [List.map_singleton, encO_some cn]; exact List.nodup_cons.mpr ⟨List.not_mem_nil, List.nodup_nil⟩) (show 1 < 64 by decide)
  · rw [h.candDown]
    obtain ⟨o1, o2, o3⟩ := h.downOk (endOf (bridgesL (zOf q (sortBy (rkTf ns al) (ds.map (rowD ns)))) (zOf q (sortBy (rkTf ns al) (ds.map (rowD ns)))).length) (placeOf (rkTf ns al) (sortBy (rkTf ns al) (ds.map (rowD ns))) (rowD ns dn) + kind / 2))
    exact least_ok hn hj hd nm kv o1 o2 o3
end
end Mine
set_option maxRecDepth 100000
set_option maxHeartbeats 2000000
namespace Mine
open PySem PySem.W PyProof.Rows PySem.Calls

section
variable {ns : List Nat} {j n : Nat} {st : KS}
theorem KInv.kv' (h : KInv ns j st) (hs : ns[j]? = some n) : ∀ x v, (x, v) ∈ kvsOf st n j → (∃ c, keyP c ∧ x = keyStr c ∧ v = .list (keyR c)) ∨ ∃ p, p < j + 1 ∧ x = TT ns p ∧ v = .list (timeR (wAt ns p) p) := by
  have old : ∀ x v, (x, v) ∈ st.kvs → (∃ c, keyP c ∧ x = keyStr c ∧ v = .list (keyR c)) ∨ ∃ p, p < j + 1 ∧ x = TT ns p ∧ v = .list (timeR (wAt ns p) p) := fun x v hm => (h.kv x v hm).imp id fun ⟨p, a, b⟩ => ⟨p, Nat.lt_succ_of_lt a, b⟩
  intro x v hm
  unfold kvsOf at hm
  split at hm
  · exact old x v hm
  · rcases List.mem_cons.mp hm with e | hm
    · obtain ⟨rfl, rfl⟩ := Prod.mk.inj e
      exact .inl ⟨_, (code_ok n).1, rfl, rfl⟩
    · rcases List.mem_cons.mp hm with e | hm
      · obtain ⟨rfl, rfl⟩ := Prod.mk.inj e
        exact .inr ⟨j, Nat.lt_succ_self _, (draw_at hs).2.2.symm, by rw [(draw_at hs).2.1]⟩
      · exact old x v hm
theorem KInv.has' (h : KInv ns j st) (hs : ns[j]? = some n) : ∀ d, (d ∈ st.deeds ∨ (kindOf n ≠ 2 ∧ d = dnOf st n j)) → (∃ v, (TT ns d.2.1, v) ∈ kvsOf st n j) ∧ ∃ v, (keyStr d.2.2, v) ∈ kvsOf st n j := by
  intro d hd
  unfold kvsOf
  rcases hd with hd | ⟨hk, rfl⟩
  · obtain ⟨⟨v, a⟩, u, b⟩ := h.has d hd
    split
    · exact ⟨⟨v, a⟩, u, b⟩
    · exact ⟨⟨v, .tail _ (.tail _ a)⟩, u, .tail _ (.tail _ b)⟩
  · unfold dnOf
    rw [if_neg hk, if_neg hk]
    exact ⟨⟨_, by rw [(draw_at hs).2.2]; exact .tail _ (.head _)⟩, _, .head _⟩
theorem later_from (d : Dd) (hd : d ∈ laterOf st n j) : d ∈ st.deeds ∨ (kindOf n ≠ 2 ∧ d = dnOf st n j) := by
  by_cases hk : kindOf n = 2
  · exact .inl (later_sub hk hd)
  · unfold laterOf at hd
    rw [if_neg hk] at hd
    refine (List.mem_append.mp hd).imp id fun c => ⟨hk, ?_⟩
    unfold dnOf
    rw [if_neg hk]
    exact List.mem_singleton.mp c
theorem KInv.kvOk (h : KInv ns j st) (hn : Draws ns) (hs : ns[j]? = some n) (hd : ∀ d, d ∈ alOf st n j → DP ns (j + 1) d) (h2 : kindOf n = 2 → dnOf st n j ∈ st.deeds) : KvOk (kvsOf st n j) ns (alOf st n j) := by
  intro d hm
  have dp := hd d hm
  have src : d ∈ st.deeds ∨ (kindOf n ≠ 2 ∧ d = dnOf st n j) := by
    unfold alOf at hm
    rcases List.mem_cons.mp hm with rfl | hm
    · by_cases hk : kindOf n = 2
      · exact .inl (h2 hk)
      · exact .inr ⟨hk, rfl⟩
    · by_cases hk : kindOf n = 2
      · rw [if_pos hk] at hm; exact later_from d hm
      · rw [if_neg hk] at hm; exact .inl hm
  obtain ⟨a, b⟩ := h.has' hs d src
  rw [dp.w]
  exact ⟨kv_time hn (draw_at hs).1 (h.kv' hs) dp.p a, kv_key hn (draw_at hs).1 (h.kv' hs) dp.k b⟩
theorem KInv.row' (h : KInv ns j st) (hs : ns[j]? = some n) : (laterOf st n j).map (logRow (timesOf st n j)) = (laterOf st n j).map (rowD ns) := by
  rw [h.times' hs]
  refine List.map_congr_left fun d hd => ?_
  unfold logRow rowD
  rw [times_get (h.laterP hs d hd).p]
theorem KInv.due' (h : KInv ns j st) (hs : ns[j]? = some n) {due : List Hh} (hd : leftOf (laterOf st n j) = some due) : due.map (nowRow (timesOf st n j)) = due.map (prH ns) := by
  rw [h.times' hs]
  refine List.map_congr_left fun x hx => ?_
  obtain ⟨d, d1, d2, rfl⟩ := left_from hd x hx
  show (keyStr d.2.2.toNat, (((List.range (j + 1)).map (TT ns))[d.2.1]?).getD "") = (keyStr d.2.2.toNat, TT ns d.2.1)
  rw [times_get (h.laterP hs d d1).p]
theorem KInv.ok' (h : KInv ns j st) {H : Hx} (hH : HNum H) (hn : Draws ns) (hs : ns[j]? = some n) : StepOk H st n j := by
  have hl := (draw_at hs).1
  have j13 := Nat.lt_of_lt_of_le hl hn.1
  have dl : st.deeds.length < 60 := Nat.lt_of_le_of_lt h.len (Nat.lt_trans j13 (by decide))
  obtain ⟨F, hF, hp⟩ := h.pairs
  have pl : st.pairs.length < 60 := by
    rw [hp.length_eq, List.length_map]
    exact Nat.lt_of_le_of_lt (left_len hF) dl
  have tok : ∀ p, p < j + 1 → PyData.strOk (TT ns p) = true := fun p hp => asc_ok (tokB_asc (time_facts (hn.2 p (Nat.lt_of_lt_of_le hp hl))).1).1
  have tj := hn.2 j hl
  have tT := (draw_at hs).2.2
  refine ⟨Nat.lt_trans j13 (by decide), by rw [h.times, List.length_map, List.length_range], dl, pl, by rw [h.log, List.length_map], h.laterOk hn hs, Nat.le_trans h.kn (by lia), fun x hx => ?_, fun r hr => ?_, fun _ => ?_, fun _ => ?_, fun _ => ?_, fun due hg => ?_⟩
  · rcases hx with hx | rfl
    · rw [h.times] at hx
      obtain ⟨p, hp, rfl⟩ := List.mem_map.mp hx
      exact tok p (Nat.lt_succ_of_lt (List.mem_range.mp hp))
    · rw [← tT]; exact tok j (Nat.lt_succ_self _)
  · obtain ⟨x, hx, rfl⟩ := List.mem_map.mp (hp.subset hr)
    obtain ⟨d, d1, d2, rfl⟩ := left_from hF x hx
    rw [prH_row d2]
    exact ⟨asc_ok (tokB_asc (key_facts (h.dp d d1).k).1).1, tok _ (Nat.lt_succ_of_lt (h.dp d d1).p)⟩
  · rw [← tT, ← (draw_at hs).2.1]
    exact ver_of (time_facts tj).2.1 (tokB_asc (time_facts tj).1).2
  · exact ver_of (key_facts (code_ok n).1).2.1 (tokB_asc (key_facts (code_ok n).1).1).2
  · rw [← tT]
    exact key_ne_time (code_ok n).1 tj
  · obtain ⟨g1, g2⟩ := goes_some hg
    obtain ⟨c, eD, dpA, k2, eL⟩ := h.chg hn hs hg hF hp
    have dnA : dnOf st n j ∈ alOf st n j := .head _
    have kv := h.kvOk hn hs dpA fun hk => (k2 hk).1
    have co := chok_of hH hn hl c dpA kv hp (Nat.mod_lt _ (by decide)) dl dnA fun hk => (k2 hk).1
    obtain ⟨eq, _⟩ := chg_new c hn hl dpA (h.laterOk hn hs) hp
    rw [eL, h.row' hs, h.due' hs g1, h.log, eD]
    refine ⟨⟨_, _, _, _, co, eq⟩, rfl, fun d hd => (h.laterP hs d hd).p, fun x hx => ?_, ?_, fun hk => by have := (k2 hk).2; rw [h.log] at this; exact this⟩
    · obtain ⟨d, d1, d2, rfl⟩ := left_from g1 x hx
      exact ⟨(h.laterP hs d d1).p, ((h.laterP hs d d1).lay d2).1⟩
    · refine Nat.lt_of_le_of_lt (left_len g1) ?_
      have : (laterOf st n j).length ≤ j + 1 := by
        unfold laterOf
        split
        · rw [List.length_append, List.length_take, List.length_drop]
          have := h.len
          lia
        · rw [List.length_append]
          exact Nat.succ_le_succ h.len
      lia
theorem KInv.step (h : KInv ns j st) (hn : Draws ns) (hs : ns[j]? = some n) : KInv ns (j + 1) (stepK st n j) := by
  unfold stepK
  cases hg : goes? st n j with
  | none =>
    exact ⟨h.times' hs, h.ok, Nat.le_succ_of_le h.len, fun d hd => (h.dp d hd).le (Nat.le_succ _), h.log, h.pairs, fun x v hm => (h.kv x v hm).imp id fun ⟨p, a, b⟩ => ⟨p, Nat.lt_succ_of_lt a, b⟩, h.has, Nat.le_trans h.kn (Nat.mul_le_mul_left 2 (Nat.le_succ _))⟩
  | some due =>
    have hl := (draw_at hs).1
    obtain ⟨F, hF, hp⟩ := h.pairs
    obtain ⟨g1, g2⟩ := goes_some hg
    obtain ⟨c, eD, dpA, k2, eL⟩ := h.chg hn hs hg hF hp
    obtain ⟨_, pm⟩ := chg_new c hn hl dpA (h.laterOk hn hs) hp
    refine ⟨h.times' hs, h.laterOk hn hs, ?_, h.laterP hs, eL, ⟨due, g1, ?_⟩, h.kv' hs, fun d hd => h.has' hs d (later_from d hd), ?_⟩
    · show (laterOf st n j).length ≤ j + 1
      unfold laterOf
      split
      · rw [List.length_append, List.length_take, List.length_drop]
        have := h.len
        lia
      · rw [List.length_append]
        exact Nat.succ_le_succ h.len
    · show (newPairs st.pairs (due.map (nowRow (timesOf st n j)))).Perm _
      rw [h.due' hs g1]; exact pm
    · show (if kindOf n = 2 then st.kn else st.kn + 2) ≤ 2 * (j + 1)
      have := h.kn
      split <;> lia
end
theorem stAt_inv {ns : List Nat} (hn : Draws ns) : ∀ j, j ≤ ns.length → KInv ns j (stAt ns j)
  | 0, _ => kinv0 ns
  | j + 1, h => by
    have hs : ns[j]? = some ns[j] := List.getElem?_eq_getElem h
    have := (stAt_inv hn j (Nat.le_of_succ_le h)).step hn hs
    unfold stAt
    rw [hs]
    exact this
/-- the plain law -/
theorem plain {H : Hx} (hH : HNum H) {ns : List Nat} (hn : Draws ns) : ∀ j n, ns[j]? = some n → StepOk H (stAt ns j) n j := fun j _ hs => (stAt_inv hn j (Nat.le_of_lt (List.getElem?_eq_some_iff.mp hs).1)).ok' hH hn hs
end Mine
set_option maxRecDepth 100000
set_option maxHeartbeats 2000000
namespace Mine
open PySem PySem.W PyProof.Rows PySem.Calls

/-- what of the heap behind the top is asked for -/
noncomputable def Ky (P : Params) : Frag := [
  (3, ⟨.type "dict", none, .dict #[⟨PyData.keyHash P "__name__", .str "__name__" 165, .str "law_ph0150_01" 643⟩, ⟨PyData.keyHash P "__doc__", .str "__doc__" 166, .none⟩, ⟨PyData.keyHash P "__package__", .str "__package__" 167, .none⟩, ⟨PyData.keyHash P "__loader__", .str "__loader__" 168, .builtin "__main__.__loader__#opaque"⟩, ⟨PyData.keyHash P "__spec__", .str "__spec__" 169, .none⟩, ⟨PyData.keyHash P "__annotations__", .str "__annotations__" 170, .ref 6⟩, ⟨PyData.keyHash P "__builtins__", .str "__builtins__" 171, .ref 4⟩, ⟨PyData.keyHash P "__file__", .str "__file__" 173, .str "/claim/cut.py" 172⟩, ⟨PyData.keyHash P "__cached__", .str "__cached__" 174, .none⟩, ⟨PyData.keyHash P "_sre", .str "_sre" 275, .ref 12⟩, ⟨PyData.keyHash P "_wall", .str "_wall" 288, .ref 38⟩, ⟨PyData.keyHash P "tspecials", .str "tspecials" 324, .ref 43⟩, ⟨PyData.keyHash P "_name_disallowed_re", .str "_name_disallowed_re" 350, .ref 48⟩, ⟨PyData.keyHash P "_value_disallowed_re", .str "_value_disallowed_re" 384, .ref 53⟩, ⟨PyData.keyHash P "_formatparam", .str "_formatparam" 394, .ref 61⟩, ⟨PyData.keyHash P "Headers", .str "Headers" 551, .ref 182⟩, ⟨PyData.keyHash P "_twin_re_1", .str "_twin_re_1" 600, .ref 191⟩, ⟨PyData.keyHash P "_ver_stages", .str "_ver_stages" 631, .ref 192⟩, ⟨PyData.keyHash P "_comparable_version", .str "_comparable_version" 642, .ref 199⟩, ⟨PyData.keyHash P "_law_key", .str "_law_key" 651, .ref 206⟩, ⟨PyData.keyHash P "_law_ranks", .str "_law_ranks" 660, .ref 213⟩, ⟨PyData.keyHash P "_law_left", .str "_law_left" 671, .ref 220⟩, ⟨PyData.keyHash P "_law_bridges", .str "_law_bridges" 682, .ref 227⟩, ⟨PyData.keyHash P "_law_least_first", .str "_law_least_first" 691, .ref 234⟩, ⟨PyData.keyHash P "_law_goes", .str "_law_goes" 697, .ref 239⟩, ⟨PyData.keyHash P "_law_change", .str "_law_change" 703, .ref 244⟩, ⟨PyData.keyHash P "_law_kept", .str "_law_kept" 709, .ref 249⟩, ⟨PyData.keyHash P "law", .str "law" 715, .ref 254⟩] 28, #[]⟩),
  (69, ⟨.type "tuple", none, .seq #[.none] 0, #[]⟩),
  (75, ⟨.type "code", none, .fields #[.str "__init__" 407, .str "Headers.__init__" 408, .str "/claim/cut.py" 409, .int 20 0, .int 2 0, .int 0 0, .int 0 0, .int 3 0, .ref 70, .bool true, .int 276 0, .ref 71, .none, .ref 72, .ref 73, .ref 74, .int 414 0, .int 20 0, .str "/claim/cut.py" 415], #[]⟩),
  (76, ⟨.type "function", none, .func { fnOf (theMeth 0) "__init__" "Headers.__init__" .none .none (.str "cpy313.wsgiref.headers" 289) (.ref 75) .none with defaults := .ref 69 }, #[]⟩),
  (82, ⟨.type "code", none, .fields #[.str "_convert_string_type" 417, .str "Headers._convert_string_type" 418, .str "/claim/cut.py" 419, .int 30 0, .int 2 0, .int 0 0, .int 1 0, .int 3 0, .ref 77, .bool true, .int 276 0, .ref 78, .none, .ref 79, .ref 80, .ref 81, .int 424 0, .int 30 0, .str "/claim/cut.py" 425], #[]⟩),
  (83, ⟨.type "function", none, .func (fnOf (theMeth 1) "_convert_string_type" "Headers._convert_string_type" .none .none (.str "cpy313.wsgiref.headers" 289) (.ref 82) .none), #[]⟩),
  (96, ⟨.type "code", none, .fields #[.str "__setitem__" 434, .str "Headers.__setitem__" 435, .str "/claim/cut.py" 436, .int 41 0, .int 3 0, .int 0 0, .int 0 0, .int 3 0, .ref 91, .bool true, .int 276 0, .ref 92, .none, .ref 93, .ref 94, .ref 95, .int 440 0, .int 41 0, .str "/claim/cut.py" 441], #[]⟩),
  (97, ⟨.type "function", none, .func (fnOf (theMeth 3) "__setitem__" "Headers.__setitem__" .none .none (.str "cpy313.wsgiref.headers" 289) (.ref 96) .none), #[]⟩),
  (101, ⟨.type "code", none, .fields #[.str "__delitem__" 443, .str "Headers.__delitem__" 444, .str "/claim/cut.py" 445, .int 45 0, .int 2 0, .int 0 0, .int 0 0, .int 3 0, .ref 98, .bool true, .int 276 0, .ref 99, .none, .none, .none, .ref 100, .int 446 0, .int 45 0, .str "/claim/cut.py" 447], #[]⟩),
  (102, ⟨.type "function", none, .func (fnOf (theMeth 4) "__delitem__" "Headers.__delitem__" .none .none (.str "cpy313.wsgiref.headers" 289) (.ref 101) .none), #[]⟩),
  (120, ⟨.type "code", none, .fields #[.str "get_all" 465, .str "Headers.get_all" 466, .str "/claim/cut.py" 467, .int 55 0, .int 2 0, .int 0 0, .int 0 0, .int 3 0, .ref 117, .bool true, .int 276 0, .ref 118, .none, .none, .none, .ref 119, .int 468 0, .int 55 0, .str "/claim/cut.py" 469], #[]⟩),
  (121, ⟨.type "function", none, .func (fnOf (theMeth 7) "get_all" "Headers.get_all" .none .none (.str "cpy313.wsgiref.headers" 289) (.ref 120) .none), #[]⟩),
  (145, ⟨.type "code", none, .fields #[.str "items" 494, .str "Headers.items" 495, .str "/claim/cut.py" 496, .int 72 0, .int 1 0, .int 0 0, .int 0 0, .int 3 0, .ref 140, .bool true, .int 276 0, .ref 141, .none, .ref 142, .ref 143, .ref 144, .int 498 0, .int 72 0, .str "/claim/cut.py" 499], #[]⟩),
  (146, ⟨.type "function", none, .func (fnOf (theMeth 11) "items" "Headers.items" .none .none (.str "cpy313.wsgiref.headers" 289) (.ref 145) .none), #[]⟩),
  (178, ⟨.type "code", none, .fields #[.str "add_header" 530, .str "Headers.add_header" 531, .str "/claim/cut.py" 532, .int 87 0, .int 3 0, .int 0 0, .int 0 0, .int 11 0, .ref 173, .bool true, .int 276 0, .ref 174, .none, .ref 175, .ref 176, .ref 177, .int 540 0, .int 87 0, .str "/claim/cut.py" 541], #[]⟩),
  (179, ⟨.type "function", none, .func (fnOf (theMeth 16) "add_header" "Headers.add_header" .none .none (.str "cpy313.wsgiref.headers" 289) (.ref 178) .none), #[]⟩),
  (180, ⟨.type "tuple", none, .seq #[.str "_headers" 543] 0, #[]⟩),
  (181, ⟨.type "dict", none, .dict #[⟨PyData.keyHash P "__module__", .str "__module__" 402, .str "cpy313.wsgiref.headers" 289⟩, ⟨PyData.keyHash P "__firstlineno__", .str "__firstlineno__" 406, .int 18 405⟩, ⟨PyData.keyHash P "__init__", .str "__init__" 416, .ref 76⟩, ⟨PyData.keyHash P "_convert_string_type", .str "_convert_string_type" 426, .ref 83⟩, ⟨PyData.keyHash P "__len__", .str "__len__" 433, .ref 90⟩, ⟨PyData.keyHash P "__setitem__", .str "__setitem__" 442, .ref 97⟩, ⟨PyData.keyHash P "__delitem__", .str "__delitem__" 448, .ref 102⟩, ⟨PyData.keyHash P "__getitem__", .str "__getitem__" 456, .ref 109⟩, ⟨PyData.keyHash P "__contains__", .str "__contains__" 464, .ref 116⟩, ⟨PyData.keyHash P "get_all", .str "get_all" 470, .ref 121⟩, ⟨PyData.keyHash P "get", .str "get" 481, .ref 129⟩, ⟨PyData.keyHash P "keys", .str "keys" 487, .ref 134⟩, ⟨PyData.keyHash P "values", .str "values" 493, .ref 139⟩, ⟨PyData.keyHash P "items", .str "items" 500, .ref 146⟩, ⟨PyData.keyHash P "__repr__", .str "__repr__" 507, .ref 153⟩, ⟨PyData.keyHash P "__str__", .str "__str__" 513, .ref 158⟩, ⟨PyData.keyHash P "__bytes__", .str "__bytes__" 520, .ref 165⟩, ⟨PyData.keyHash P "setdefault", .str "setdefault" 529, .ref 172⟩, ⟨PyData.keyHash P "add_header", .str "add_header" 542, .ref 179⟩, ⟨PyData.keyHash P "__static_attributes__", .str "__static_attributes__" 544, .ref 180⟩, ⟨PyData.keyHash P "__dict__", .str "__dict__" 546, .ref 183⟩, ⟨PyData.keyHash P "__weakref__", .str "__weakref__" 548, .ref 184⟩, ⟨PyData.keyHash P "__doc__", .str "__doc__" 549, .none⟩] 4, #[]⟩),
  (182, ⟨.type "type", none, .cls { name := "Headers", bases := [.type "object"], mro := [.ref 182, .type "object"], ns := 181, qualname := "Headers", hasDict := true, slotNames := [], subclasses := [], abstract := false, collection := none, hasDel := false }, #[none, none, some (.str "Headers" 395), some (.str "Headers" 403), some (.builtin "object.__new__"), some (.bool true)]⟩),
  (47, ⟨.type "tuple", none, .seq #[.int 14 0, .int 10 0, .int 4 0, .int 1 0, .int 1 0, .int 22 0, .int 0 0, .int 31 0, .int 16 0, .int 127 0, .int 0 0, .int 13 0, .int 7 0, .int 22 0, .int 0 0, .int 31 0, .int 16 0, .int 127 0, .int 0 0, .int 1 0] 0, #[]⟩),
  (48, ⟨.type "re.Pattern", none, .fields #[.str "[\\x00-\\x1F\\x7F]" 326, .int 32 349, .int 0 0, .none, .none, .ref 47, .int 0 0], #[]⟩),
  (52, ⟨.type "tuple", none, .seq #[.int 14 0, .int 14 0, .int 4 0, .int 1 0, .int 1 0, .int 9 0, .int 4294966783 0, .int 0 0, .int 0 0, .int 2147483648 0, .int 0 0, .int 0 0, .int 0 0, .int 0 0, .int 0 0, .int 13 0, .int 11 0, .int 9 0, .int 4294966783 0, .int 0 0, .int 0 0, .int 2147483648 0, .int 0 0, .int 0 0, .int 0 0, .int 0 0, .int 0 0, .int 1 0] 0, #[]⟩),
  (53, ⟨.type "re.Pattern", none, .fields #[.str "[\\x00-\\x08\\x0A-\\x1F\\x7F]" 352, .int 32 383, .int 0 0, .none, .none, .ref 52, .int 0 0], #[]⟩),
  (190, ⟨.type "tuple", none, .seq #[.int 14 0, .int 4 0, .int 0 0, .int 1 0, .int 4294967295 0, .int 17 0, .int 0 0, .int 7 0, .int 14 0, .int 24 0, .int 10 0, .int 1 0, .int 4294967295 0, .int 13 0, .int 5 0, .int 22 0, .int 48 0, .int 57 0, .int 0 0, .int 1 0, .int 15 0, .int 17 0, .int 15 0, .int 13 0, .int 11 0, .int 9 0, .int 0 0, .int 26624 0, .int 2147483648 0, .int 0 0, .int 0 0, .int 0 0, .int 0 0, .int 0 0, .int 0 0, .int 15 0, .int 2 0, .int 0 0, .int 17 0, .int 1 0, .int 1 0] 0, #[]⟩),
  (191, ⟨.type "re.Pattern", none, .fields #[.str "([0-9]+|[._+-])" 555, .int 32 599, .int 1 0, .none, .none, .ref 190, .int 0 0], #[]⟩),
  (192, ⟨.type "dict", none, .dict #[⟨PyData.keyHash P "dev", .str "dev" 601, .int 10 602⟩, ⟨PyData.keyHash P "alpha", .str "alpha" 603, .int 20 604⟩, ⟨PyData.keyHash P "a", .str "a" 605, .int 20 606⟩, ⟨PyData.keyHash P "beta", .str "beta" 607, .int 30 608⟩, ⟨PyData.keyHash P "b", .str "b" 609, .int 30 610⟩, ⟨PyData.keyHash P "c", .str "c" 611, .int 40 612⟩, ⟨PyData.keyHash P "RC", .str "RC" 613, .int 50 614⟩, ⟨PyData.keyHash P "rc", .str "rc" 615, .int 50 616⟩, ⟨PyData.keyHash P "pl", .str "pl" 617, .int 200 618⟩, ⟨PyData.keyHash P "p", .str "p" 619, .int 200 620⟩] 10, #[]⟩),
  (198, ⟨.type "code", none, .fields #[.str "_comparable_version" 632, .str "_comparable_version" 633, .str "/claim/cut.py" 634, .int 103 0, .int 1 0, .int 0 0, .int 0 0, .int 3 0, .ref 193, .bool true, .int 276 0, .ref 194, .none, .ref 195, .ref 196, .ref 197, .int 640 0, .int 103 0, .str "/claim/cut.py" 641], #[]⟩),
  (199, ⟨.type "function", none, .func (fnOf (theDef 11) "_comparable_version" "_comparable_version" .none .none (.str "cpy313.platform" 552) (.ref 198) .none), #[]⟩),
  (205, ⟨.type "code", none, .fields #[.str "_law_key" 645, .str "_law_key" 646, .str "/claim/cut.py" 647, .int 116 0, .int 1 0, .int 0 0, .int 0 0, .int 3 0, .ref 200, .bool true, .int 276 0, .ref 201, .none, .ref 202, .ref 203, .ref 204, .int 649 0, .int 116 0, .str "/claim/cut.py" 650], #[]⟩),
  (206, ⟨.type "function", none, .func (fnOf (theDef 13) "_law_key" "_law_key" .none .none (.str "law_ph0150_01" 643) (.ref 205) .none), #[]⟩),
  (212, ⟨.type "code", none, .fields #[.str "_law_ranks" 652, .str "_law_ranks" 653, .str "/claim/cut.py" 654, .int 120 0, .int 1 0, .int 0 0, .int 0 0, .int 3 0, .ref 207, .bool true, .int 276 0, .ref 208, .none, .ref 209, .ref 210, .ref 211, .int 658 0, .int 120 0, .str "/claim/cut.py" 659], #[]⟩),
  (213, ⟨.type "function", none, .func (fnOf (theDef 14) "_law_ranks" "_law_ranks" .none .none (.str "law_ph0150_01" 643) (.ref 212) .none), #[]⟩),
  (219, ⟨.type "code", none, .fields #[.str "_law_left" 661, .str "_law_left" 662, .str "/claim/cut.py" 663, .int 124 0, .int 1 0, .int 0 0, .int 0 0, .int 3 0, .ref 214, .bool true, .int 276 0, .ref 215, .none, .ref 216, .ref 217, .ref 218, .int 669 0, .int 124 0, .str "/claim/cut.py" 670], #[]⟩),
  (220, ⟨.type "function", none, .func (fnOf (theDef 15) "_law_left" "_law_left" .none .none (.str "law_ph0150_01" 643) (.ref 219) .none), #[]⟩),
  (226, ⟨.type "code", none, .fields #[.str "_law_bridges" 672, .str "_law_bridges" 673, .str "/claim/cut.py" 674, .int 134 0, .int 2 0, .int 0 0, .int 0 0, .int 3 0, .ref 221, .bool true, .int 276 0, .ref 222, .none, .ref 223, .ref 224, .ref 225, .int 680 0, .int 134 0, .str "/claim/cut.py" 681], #[]⟩),
  (227, ⟨.type "function", none, .func (fnOf (theDef 16) "_law_bridges" "_law_bridges" .none .none (.str "law_ph0150_01" 643) (.ref 226) .none), #[]⟩),
  (233, ⟨.type "code", none, .fields #[.str "_law_least_first" 683, .str "_law_least_first" 684, .str "/claim/cut.py" 685, .int 145 0, .int 2 0, .int 0 0, .int 0 0, .int 3 0, .ref 228, .bool true, .int 276 0, .ref 229, .none, .ref 230, .ref 231, .ref 232, .int 689 0, .int 145 0, .str "/claim/cut.py" 690], #[]⟩),
  (234, ⟨.type "function", none, .func (fnOf (theDef 17) "_law_least_first" "_law_least_first" .none .none (.str "law_ph0150_01" 643) (.ref 233) .none), #[]⟩),
  (238, ⟨.type "code", none, .fields #[.str "_law_goes" 692, .str "_law_goes" 693, .str "/claim/cut.py" 694, .int 147 0, .int 3 0, .int 0 0, .int 0 0, .int 3 0, .ref 235, .bool true, .int 276 0, .ref 236, .none, .none, .none, .ref 237, .int 695 0, .int 147 0, .str "/claim/cut.py" 696], #[]⟩),
  (239, ⟨.type "function", none, .func (fnOf (theDef 18) "_law_goes" "_law_goes" .none .none (.str "law_ph0150_01" 643) (.ref 238) .none), #[]⟩),
  (243, ⟨.type "code", none, .fields #[.str "_law_change" 698, .str "_law_change" 699, .str "/claim/cut.py" 700, .int 153 0, .int 5 0, .int 0 0, .int 0 0, .int 3 0, .ref 240, .bool true, .int 276 0, .ref 241, .none, .none, .none, .ref 242, .int 701 0, .int 153 0, .str "/claim/cut.py" 702], #[]⟩),
  (244, ⟨.type "function", none, .func (fnOf (theDef 19) "_law_change" "_law_change" .none .none (.str "law_ph0150_01" 643) (.ref 243) .none), #[]⟩),
  (248, ⟨.type "code", none, .fields #[.str "_law_kept" 704, .str "_law_kept" 705, .str "/claim/cut.py" 706, .int 172 0, .int 1 0, .int 0 0, .int 0 0, .int 3 0, .ref 245, .bool true, .int 276 0, .ref 246, .none, .none, .none, .ref 247, .int 707 0, .int 172 0, .str "/claim/cut.py" 708], #[]⟩),
  (249, ⟨.type "function", none, .func (fnOf (theDef 20) "_law_kept" "_law_kept" .none .none (.str "law_ph0150_01" 643) (.ref 248) .none), #[]⟩),
  (253, ⟨.type "code", none, .fields #[.str "law" 710, .str "law" 711, .str "/claim/cut.py" 712, .int 218 0, .int 1 0, .int 0 0, .int 0 0, .int 3 0, .ref 250, .bool true, .int 276 0, .ref 251, .none, .none, .none, .ref 252, .int 713 0, .int 218 0, .str "/claim/cut.py" 714], #[]⟩),
  (254, ⟨.type "function", none, .func (fnOf (theDef 21) "law" "law" .none .none (.str "law_ph0150_01" 643) (.ref 253) .none), #[]⟩)]
noncomputable def Kx (P : Params) : Frag := [
  (229, ⟨.none, none, .fields #[], #[]⟩),
  (241, ⟨.none, none, .fields #[], #[]⟩)] ++ Ky P
noncomputable def asX : List Addr := [229, 241, 3, 69, 75, 76, 82, 83, 96, 97, 101, 102, 120, 121, 145, 146, 178, 179, 180, 181, 182, 47, 48, 52, 53, 190, 191, 192, 198, 199, 205, 206, 212, 213, 219, 220, 226, 227, 233, 234, 238, 239, 243, 244, 248, 249, 253, 254]
theorem Kx_as (P : Params) : asX = (Kx P).map (·.1) := rfl
noncomputable def YX (w : World) (h : Heap) : Prop := (Kx w.params).In h
theorem YX.of (w : World) (s : Shared) (e : asX.map s.heap.get? = (Kx w.params).map fun p => some p.2) : YX w s.heap := Frag.in_of (Kx_as _) e
theorem YX.keeps (w : World) (h h' : Heap) (x : YX w h) (k : ∀ b o, h.get? b = some o → h'.get? b = some o) : YX w h' := Frag.In.keeps x k
end Mine
set_option maxRecDepth 100000
set_option maxHeartbeats 2000000
namespace Mine
open PySem PySem.W PyProof.Rows PySem.Calls

section
variable {P : Params}
theorem k_ga : findIn (Ky P) (.ref 182) "__getattribute__" = some (some (.builtin "object.__getattribute__")) := by kernel_rfl
theorem k_gt : findIn (Ky P) (.ref 182) "__getattr__" = some none := by kernel_rfl
theorem k_makes : makesIn (Ky P) 182 = true := by kernel_rfl
theorem k_noseq : noSeq (Ky P) 182 = true := by kernel_rfl
theorem k_notabs : noTabs (Ky P) = true := by kernel_rfl
end
section
variable {prog : Program} {w : World} {G : Gn} (hC : G.C = 182) (X : (Ky w.params).In G.B)
include hC X
theorem meth_of {name : Str} {f : Addr} (hf : findIn (Ky w.params) (.ref 182) name = some (some (.ref f))) (ht : typeIn (Ky w.params) (.ref f) = some (.type "function")) (hs : ∀ k t a n, shadowIn (some (dictOf [⟨k, .str "_headers" t, .ref a⟩] n)) name = some false) : Meth prog w G name f := by
  intro A X' s v a pl Q g ⟨x, D, k, t, n, e, _, _, I⟩ q
  subst e
  rw [hC] at I
  exact method_fn (X.keeps g.fr.keep) I k_ga k_gt hf ht (hs k t a n) q
theorem hdattr_of : HdAttr prog w G := by
  intro A X' s v a b Q g ⟨x, D, k, t, n, e, _, _, I⟩ q
  subst e
  rw [hC] at I
  exact get_value (X.keeps g.fr.keep) I k_ga (findObj_own (by kernel_rfl) (show findIn (Ky w.params) (.ref 182) "_headers" = some none by kernel_rfl) rfl rfl) rfl q
theorem hdops_of : HdOps prog w G 102 97 := by
  refine ⟨fun A X' s v a k Q g ⟨x, D, k', t, n, e, _, _, I⟩ h => ?_, fun A X' s v a k u Q g ⟨x, D, k', t, n, e, _, _, I⟩ h => ?_⟩
  · subst e
    rw [hC] at I
    have X' := X.keeps g.fr.keep
    unfold delItem sequenceKey
    refine wpAny_holding (wpAny_bind (wpAny_bind (I.type.here ?_)))
    refine wpAny_bind ((anyM_none X' k_noseq).here ?_)
    rw [if_pos (show (!false) = true from rfl)]
    exact wpAny_pure (wpAny_bind (special_fn X' I (show findIn (Ky w.params) (.ref 182) "__delitem__" = some (some (.ref 102)) by kernel_rfl) (by kernel_rfl) (wpAny_mono h (fun _ _ z => wpAny_pure z) fun _ _ z => z)))
  · subst e
    rw [hC] at I
    have X' := X.keeps g.fr.keep
    unfold setItem sequenceKey
    refine wpAny_holding (wpAny_bind (wpAny_bind (I.type.here ?_)))
    refine wpAny_bind ((anyM_none X' k_noseq).here ?_)
    rw [if_pos (show (!false) = true from rfl)]
    exact wpAny_pure (wpAny_bind (special_fn X' I (show findIn (Ky w.params) (.ref 182) "__setitem__" = some (some (.ref 97)) by kernel_rfl) (by kernel_rfl) (wpAny_mono h (fun _ _ z => wpAny_pure z) fun _ _ z => z)))
theorem hdset_of : HdSet prog w G := by
  intro A s x D v Q g hx hD h
  rw [hC] at hx
  have X' := X.keeps g.fr.keep
  have I : InstAt s.heap x (instObj 182 D) 182 (some emptyDict) := ⟨hx, rfl, rfl, hD⟩
  refine set_plain X' I (by kernel_rfl) ?_
  refine osa_open (s := { s with toks := s.toks + 1 }) (r := none) X' I (by kernel_rfl) (by kernel_rfl) fun b => ?_
  obtain ⟨cd, hc, hd'⟩ := any_some (show (clsIn (Ky w.params) 182).any (·.hasDict) = true by kernel_rfl)
  have hf : Obj.putName "_headers" (PyData.keyHash w.params "_headers") (.str "_headers" (s.toks + 1)) v emptyDict = dictOf [⟨PyData.keyHash w.params "_headers", .str "_headers" (s.toks + 1), v⟩] 1 := by rfl
  have D' : (s.heap.update D (Obj.putName "_headers" (PyData.keyHash w.params "_headers") (.str "_headers" (s.toks + 1)) v)).get? D = some (dictOf [⟨PyData.keyHash w.params "_headers", .str "_headers" (s.toks + 1), v⟩] 1) := hf ▸ Heap.get?_update_self _ hD (hf ▸ rfl)
  refine wpAny_bind (wpAny_pure (wpAny_bind (wpAny_bind (wpAny_loadPart hx (wpAny_bind (Looks.here (s := { s with toks := s.toks + 1 }) (looks_clsIn X' hc) ?_))))))
  rw [hd']
  refine wpAny_pure (a := some D) (wpAny_bind (wpAny_pure (wpAny_bind ?_)))
  unfold nsSet
  refine wpAny_bind (wpAny_bind (wpAny_askSetting (wpAny_pure (wpAny_bind (wpAny_mkText (wpAny_bind (wpAny_loadPart hD ?_)))))))
  dsimp only
  rw [aRefKeyMayBeTheName_at, show (!(#[] : Array DictEntry).any (·.key.isStr "_headers") && (#[] : Array DictEntry).any (·.refKey)) = false by rw [← Array.any_toList, ← Array.any_toList]; rfl]
  refine wpAny_updatePart hD ?_
  refine wpAny_bind (wpAny_lookBehind D' (pastItsLine_dict (by rw [sizeLine_eq]; exact show 1 ≤ 16777216 + 1 by decide)) ?_)
  exact wpAny_pure (h _ _ _ _ _ (fun b o hb e => (Heap.get?_update_ne _ _ _ _ hb).trans e) D')
end
end Mine
set_option maxRecDepth 100000
set_option maxHeartbeats 2000000
namespace Mine
open PySem PySem.W PyProof.Rows PySem.Calls

section
variable {prog : Program} {w : World} {G : Gn} (X : (Ky w.params).In G.B)
include X
theorem isfn {a c : Addr} {d : Stmt} {nm q : Str} {kd doc pm ct : Value} {c1 c2 : Value} {d1 d2 : Option Addr} {s1 s2 : Array (Option Value)} {vs : Array Value} {t : Tok} (e1 : (Ky w.params).lookup a = some ⟨c1, d1, .func (fnOf d nm q kd doc pm (.ref c) ct), s1⟩) (e2 : (Ky w.params).lookup c = some ⟨c2, d2, .fields vs, s2⟩) (e3 : vs[1]? = some (.str q t)) :
    IsFn G a d (fnOf d nm q kd doc pm (.ref c) ct) := ⟨⟨nm, q, kd, doc, pm, .ref c, ct, rfl⟩, ⟨_, X _ _ e1, rfl⟩, _, _, _, _, rfl, X _ _ e2, rfl, e3⟩
theorem fn_83 : IsFn G 83 (theMeth 1) (fnOf (theMeth 1) "_convert_string_type" "Headers._convert_string_type" .none .none (.str "cpy313.wsgiref.headers" 289) (.ref 82) .none) := isfn X rfl rfl rfl
theorem fn_97 : IsFn G 97 (theMeth 3) (fnOf (theMeth 3) "__setitem__" "Headers.__setitem__" .none .none (.str "cpy313.wsgiref.headers" 289) (.ref 96) .none) := isfn X rfl rfl rfl
theorem fn_102 : IsFn G 102 (theMeth 4) (fnOf (theMeth 4) "__delitem__" "Headers.__delitem__" .none .none (.str "cpy313.wsgiref.headers" 289) (.ref 101) .none) := isfn X rfl rfl rfl
theorem fn_121 : IsFn G 121 (theMeth 7) (fnOf (theMeth 7) "get_all" "Headers.get_all" .none .none (.str "cpy313.wsgiref.headers" 289) (.ref 120) .none) := isfn X rfl rfl rfl
theorem fn_146 : IsFn G 146 (theMeth 11) (fnOf (theMeth 11) "items" "Headers.items" .none .none (.str "cpy313.wsgiref.headers" 289) (.ref 145) .none) := isfn X rfl rfl rfl
theorem fn_179 : IsFn G 179 (theMeth 16) (fnOf (theMeth 16) "add_header" "Headers.add_header" .none .none (.str "cpy313.wsgiref.headers" 289) (.ref 178) .none) := isfn X rfl rfl rfl
theorem fn_199 : IsFn G 199 (theDef 11) (fnOf (theDef 11) "_comparable_version" "_comparable_version" .none .none (.str "cpy313.platform" 552) (.ref 198) .none) := isfn X rfl rfl rfl
theorem fn_206 : IsFn G 206 (theDef 13) (fnOf (theDef 13) "_law_key" "_law_key" .none .none (.str "law_ph0150_01" 643) (.ref 205) .none) := isfn X rfl rfl rfl
theorem fn_213 : IsFn G 213 (theDef 14) (fnOf (theDef 14) "_law_ranks" "_law_ranks" .none .none (.str "law_ph0150_01" 643) (.ref 212) .none) := isfn X rfl rfl rfl
theorem fn_220 : IsFn G 220 (theDef 15) (fnOf (theDef 15) "_law_left" "_law_left" .none .none (.str "law_ph0150_01" 643) (.ref 219) .none) := isfn X rfl rfl rfl
theorem fn_227 : IsFn G 227 (theDef 16) (fnOf (theDef 16) "_law_bridges" "_law_bridges" .none .none (.str "law_ph0150_01" 643) (.ref 226) .none) := isfn X rfl rfl rfl
theorem fn_234 : IsFn G 234 (theDef 17) (fnOf (theDef 17) "_law_least_first" "_law_least_first" .none .none (.str "law_ph0150_01" 643) (.ref 233) .none) := isfn X rfl rfl rfl
theorem fn_239 : IsFn G 239 (theDef 18) (fnOf (theDef 18) "_law_goes" "_law_goes" .none .none (.str "law_ph0150_01" 643) (.ref 238) .none) := isfn X rfl rfl rfl
theorem fn_244 : IsFn G 244 (theDef 19) (fnOf (theDef 19) "_law_change" "_law_change" .none .none (.str "law_ph0150_01" 643) (.ref 243) .none) := isfn X rfl rfl rfl
theorem fn_249 : IsFn G 249 (theDef 20) (fnOf (theDef 20) "_law_kept" "_law_kept" .none .none (.str "law_ph0150_01" 643) (.ref 248) .none) := isfn X rfl rfl rfl
theorem fn_254 : IsFn G 254 (theDef 21) (fnOf (theDef 21) "law" "law" .none .none (.str "law_ph0150_01" 643) (.ref 253) .none) := isfn X rfl rfl rfl
theorem pat_48 : PatAt G 48 codeN0 0 := ⟨_, _, _, _, _, _, X 48 _ rfl, rfl, rfl, rfl, rfl, rfl, rfl, X 47 _ rfl, rfl, by decide +kernel⟩
theorem pat_53 : PatAt G 53 codeV0 0 := ⟨_, _, _, _, _, _, X 53 _ rfl, rfl, rfl, rfl, rfl, rfl, rfl, X 52 _ rfl, rfl, by decide +kernel⟩
theorem pat_191 : PatAt G 191 compCode 1 := ⟨_, _, _, _, _, _, X 191 _ rfl, rfl, rfl, rfl, rfl, rfl, rfl, X 190 _ rfl, rfl, by decide +kernel⟩
end
noncomputable def verL : List (Str × Int × Nat × Nat) := [("dev", 10, 601, 602), ("alpha", 20, 603, 604), ("a", 20, 605, 606), ("beta", 30, 607, 608), ("b", 30, 609, 610), ("c", 40, 611, 612), ("RC", 50, 613, 614), ("rc", 50, 615, 616), ("pl", 200, 617, 618), ("p", 200, 619, 620)]
theorem ver_val (k : Str) : ∀ L : List (Str × Int × Nat × Nat), (valueAt (L.map fun x => (x.1, Value.int x.2.1 x.2.2.2)) k = none ∧ ((L.map fun x => (x.1, x.2.1)).lookup k).getD 0 = 0) ∨ ∃ t, valueAt (L.map fun x => (x.1, Value.int x.2.1 x.2.2.2)) k = some (.int (((L.map fun x => (x.1, x.2.1)).lookup k).getD 0) t)
  | [] => .inl ⟨rfl, rfl⟩
  | x :: L => by
    unfold valueAt
    rw [List.map_cons, List.map_cons, List.find?_cons, List.lookup_cons]
    by_cases h : x.1 = k
    · refine .inr ⟨x.2.2.2, ?_⟩
      rw [decide_eq_true h, beq_iff_eq.mpr h.symm]
      rfl
    · rw [decide_eq_false h, beq_eq_false_iff_ne.mpr fun e => h e.symm]
      exact ver_val k L
theorem ver_pairs {prog : Program} {w : World} : ∀ L : List (Str × Int × Nat × Nat), Pairs (PySem.strKind prog w) (L.map fun x => (⟨PyData.keyHash w.params x.1, .str x.1 x.2.2.1, .int x.2.1 x.2.2.2⟩ : DictEntry)) (L.map fun x => (x.1, Value.int x.2.1 x.2.2.2))
  | [] => .nil
  | x :: L => .cons (beq_self_eq_true x.1) rfl (ver_pairs L)
theorem verok {prog : Program} {w : World} {G : Gn} (X : (Ky w.params).In G.B) (hm : G.mg "_ver_stages" = some (.ref 192)) : VerOk prog w G 192 := by
  refine ⟨rfl, ⟨verL.map fun x => (x.1, Value.int x.2.1 x.2.2.2), ⟨_, (verL.map fun x => (⟨PyData.keyHash w.params x.1, .str x.1 x.2.2.1, .int x.2.1 x.2.2.2⟩ : DictEntry)).toArray, 10, X 192 _ rfl, ⟨rfl, rfl, rfl⟩, rfl, fun e he => ?_, ver_pairs verL, by decide +kernel⟩, fun k => ver_val k verL⟩, hm⟩
  obtain ⟨x, _, rfl⟩ := List.mem_map.mp (Array.mem_toList_iff.mpr he)
  exact ⟨x.1, beq_self_eq_true x.1, rfl⟩
end Mine
set_option maxRecDepth 100000
set_option maxHeartbeats 2000000
namespace Mine
open PySem PySem.W PyProof.Rows PySem.Calls

section
variable {prog : Program} {w : World} {A : Around} {G : Gn} {H : Hx} {X W : Addr → Prop} {env : Env} {σ σ' : List (Str × VD)} {cs cs' : List (Addr × Cell)} {s s' : Shared}
/-- a def of one argument called, that makes the frames ready -/
theorem EvM.defK {a : Addr} {nm : Str} {k n : Nat} {p pos : Pos} {e : Expr} {x z : VD} (hG : GOk G) (hcv : G.mg nm = some (.ref a)) (h : ∃ fd, IsFn G a (theDef k) fd) (hA : Aok A n)
    (law : ∀ fs, FnU Un.und (fun A => Aok A n ∧ FrOut fs A) prog w G (.ref a) (fs.map (·.1)) (frs fs) (frs fs) [] [x] z) {fs : List (Addr × Obj)} (hF : ∀ o, FrOut ((env.locals, o) :: fs) A) (hsl : (frs fs).Sublist cs) (hfw : ∀ p, p ∈ frs fs → W p.1) (hk : env.kindOf nm = some .globalImplicit)
    (he : Ev prog w A G X W env σ cs e x) (hs : starEach [e] env = (false, eval e env) :: starEach [] env) (hd : (nm == ("__debug__" : Str)) = false := by decide) : EvM Un.und prog w A G X W env σ cs (.Call (.Name nm p) [e] [] pos) cs z := by
  obtain ⟨fd, h⟩ := h
  refine ⟨fun s i => wpK_Call_Name (kff (wpAny.k ((Ev.global (pos := p) hG hcv hk hd).run s i)) fun f s₁ ⟨k1, r1⟩ => ?_)⟩
  have r1' : f = .ref a := r1
  subst r1'
  have i1 := i.quiet k1
  obtain ⟨ob, eo, ed⟩ := h.obj
  refine callWithK_function (o := ob) (fd := fd) (by rw [hs]; rfl) (kff (wpAny.k ((EvA.plain (EvL.cons he EvL.nil hs) hs).run _ pos s₁ i1)) fun y s₂ ⟨k2, hkw, r2⟩ => ⟨⟨(i1.quiet k2).gd.fr.keep _ _ eo, ed⟩, ?_⟩)
  have i2 := i1.quiet k2
  obtain ⟨m, o, es, ep, e1, d1, _⟩ := i2.fr.ns
  rw [hkw, List.nil_append]
  have wl : W env.locals := i.fx _ (.inl rfl)
  have hmem : ∀ c, c ∈ frs ((env.locals, o) :: fs) → FrL W env cs c.1 ∧ W c.1 ∧ c.2.At (Or2 X W) s₂.heap c.1 := fun c hc => by
    rcases List.mem_cons.mp hc with rfl | hc
    · exact ⟨.inl rfl, wl, ⟨o.slots, e1⟩, es, ep, d1⟩
    · have h1 := hsl.subset hc
      have h2 := hfw c hc
      obtain ⟨p, _, rfl⟩ := List.mem_map.mp hc
      exact ⟨.inr ⟨_, h1, h2⟩, h2, (i2.ce _ h1).2.2⟩
  have hkey : ∀ b, b ∈ ((env.locals, o) :: fs).map (·.1) → ∃ ob, (b, Cell.frm ob) ∈ frs ((env.locals, o) :: fs) := fun b hb => by
    obtain ⟨p, hp, rfl⟩ := List.mem_map.mp hb
    exact ⟨_, frs_mem hp⟩
  refine kff (law ((env.locals, o) :: fs) A (Or2 X W) s₂ y.pos ⟨hA, hF o⟩ i2.ok (fun b hb => ?_) (fun c hc => ?_) ?_ r2) fun v s₃ ⟨q3, c3, r3⟩ => ?_
  · obtain ⟨ob, hb'⟩ := hkey b hb
    exact ⟨.inr (hmem _ hb').2.1, i.wb _ (hmem _ hb').2.1⟩
  · exact ⟨.inr (hmem c hc).2.1, (i.wb _ (hmem c hc).2.1).2, (hmem c hc).2.2⟩
  · show (env.locals :: (frs fs).map (·.1)).Nodup
    rw [List.nodup_cons]
    refine ⟨fun h => ?_, (hsl.map _).nodup i2.ap⟩
    obtain ⟨c, hc, e⟩ := List.mem_map.mp h
    exact (i2.ce _ (hsl.subset hc)).2.1 (.inl e)
  · have rdy := i2.slotsQ (fun L hL => let ⟨_, h⟩ := hkey L hL; (hmem _ h).1) q3 (fun b ob hb e => ?_)
    · exact ⟨rdy.1, (QQ.to (k1.trans k2)).trans rdy.2, r3⟩
    · obtain ⟨o', hb'⟩ := hkey b hb
      obtain ⟨⟨sl0, e0⟩, _⟩ := (hmem _ hb').2.2
      obtain ⟨⟨sl1, e1⟩, _⟩ := c3 _ hb'
      rw [show s₂.heap.get? b = _ from e0] at e
      cases e
      exact ⟨sl1, e1⟩
theorem Ex.retB {U : Un} {e : Expr} {pos : Pos} {rest : List Stmt} {b : Bool} {Q : Post} (h : EvM U prog w A G X W env σ cs e cs' (Bo b)) (q : Q (.ret (Bo b)) W σ cs') : ExU U prog w A G X W env σ cs (.Return (some e) pos :: rest) Q := by
  refine ⟨fun s i => wpK_execs_cons (wpK_Return_some (kff (h.run s i) fun v s' ⟨i', k, r⟩ => ⟨.ret (Bo b), W, σ, cs', q, i', k, fun _ h => .inl h, ?_⟩))⟩
  have := Rd.bool_inv r
  subst this
  exact .bool _
/-- the draws of a script -/
noncomputable def fixedL : List Nat := [6040, 102070, 200101, 300010, 100051, 32, 22, 202110, 300121]
noncomputable def drawsOf (xs : List Int) : List Nat := fixedL ++ (xs.take 4).map fun x => (x.fmod 1000000).toNat
theorem drawsOf_eq (xs : List Int) : (((fixedL.map fun n : Nat => (n : Int)) ++ xs.take 4).filter fun _ => true).map (fun x => PyData.int (x.fmod 1000000)) = (drawsOf xs).map fun n : Nat => PyData.int (n : Int) := by
  unfold drawsOf
  rw [List.filter_eq_self.mpr fun _ _ => rfl, List.map_append, List.map_append, List.map_map, List.map_map]
  refine congr (congrArg _ (by rfl)) (List.map_congr_left fun x _ => ?_)
  show PyData.int (x.fmod 1000000) = PyData.int (((x.fmod 1000000).toNat : Nat) : Int)
  rw [Int.toNat_of_nonneg (Int.fmod_nonneg_of_pos x (by decide))]
theorem draws_ok (xs : List Int) : Draws (drawsOf xs) ∧ ∀ n, n ∈ drawsOf xs → n < 2 ^ 29 := by
  have small : ∀ x : Int, (x.fmod 1000000).toNat < 1000000 := fun x => by
    have := Int.fmod_lt_of_pos x (show (0 : Int) < 1000000 by decide)
    have := Int.fmod_nonneg_of_pos x (show (0 : Int) < 1000000 by decide)
    lia
  have len : (drawsOf xs).length ≤ 13 := by
    unfold drawsOf
    rw [List.length_append, List.length_map, List.length_take]
    exact Nat.add_le_add_left (Nat.min_le_left _ _) 9
  refine ⟨⟨len, fun p hp => ⟨Nat.lt_of_lt_of_le hp len, Nat.mod_lt _ (by decide), Nat.mod_lt _ (by decide), fun h9 => ?_⟩⟩, fun n hn => ?_⟩
  · have e : (drawsOf xs)[p]? = fixedL[p]? := List.getElem?_append_left h9
    unfold wAt mAt
    rw [e]
    have : ∀ p, p < 9 → fixW[p]? = some (toldOf ((fixedL[p]?).getD 0) % 13, markOf ((fixedL[p]?).getD 0)) := by decide
    exact this p h9
  · rcases List.mem_append.mp hn with h | h
    · have : ∀ n, n ∈ fixedL → n < 2 ^ 29 := by decide
      exact this n h
    · obtain ⟨x, _, rfl⟩ := List.mem_map.mp h
      exact Nat.lt_trans (small x) (by decide)
/-- the body of the law -/
theorem law_body {L : Lx} {d re fI a a0 : Addr} {fd : FuncData} {xs : List Int} (hL : KpEnv prog w G H L d re fI) (hH : HNum H) (hkG : G.mg "_law_kept" = some (.ref a)) (hk : ∃ kfd, IsFn G a (theDef 20) kfd) (hx : xs.length ≤ 63) (hA : Aok A 16) {L' : Addr} {env : Env}
    (henv : env = callEnvC fd L' a0) (hsc : fd.scope = defScope (theDef 21)) (hF : ∀ o, FrOut [(env.locals, o)] A) :
    ExU Un.und prog w A G X W env [("script", .dat (.list (xs.map .int)))] [] (defBody (theDef 21)) (fun f _ _ _ => f = .ret (Bo true)) := by
  have hG := hL.hE.glm.toGOk
  subst henv
  obtain ⟨c1, c2, c3, c4, c5, c6, sc, c7, c8, c9, c10, c11, c12, c13, c14⟩ := fd
  subst hsc
  obtain ⟨hd, hs⟩ := draws_ok xs
  refine Ex.step (St1.assign (d := .dat (.list ((fixedL.map fun n : Nat => (n : Int)).map .int))) (EvD.list ((fixedL.map fun n : Nat => (n : Int)).map .int) (EvD.cons Ev.const_int (EvD.cons Ev.const_int (EvD.cons Ev.const_int (EvD.cons Ev.const_int (EvD.cons Ev.const_int (EvD.cons Ev.const_int (EvD.cons Ev.const_int (EvD.cons Ev.const_int (EvD.cons Ev.const_int EvD.nil star_const) star_const) star_const) star_const) star_const) star_const) star_const) star_const) star_const) (by decide)) (.inl rfl)) ?_
  refine Ex.retB (cs' := []) (EvM.defK (x := .dat (.list ((drawsOf xs).map fun n : Nat => PyData.int (n : Int)))) (k := 20) hG hkG hk hA (fun fs => ?_) (fs := []) hF (List.Sublist.refl _) (fun p hp => absurd hp List.not_mem_nil) rfl ?_ rfl) rfl
  · obtain ⟨kfd, hk⟩ := hk
    exact kept_law hL hk (Nat.le_trans hd.1 (by decide)) hs (plain hH hd)
  · refine Ev.conv (Ev.comp (x := "x") (xs := (fixedL.map fun n : Nat => (n : Int)) ++ xs.take 4) (enc := .int) (p := fun _ => true) (f := fun x => .int (x.fmod 1000000)) (cl := []) (σc := []) rfl (by decide) rfl (by decide) rfl cl_nil .nil (EvS.list hA.hh ?src ?len) (fun C X' r hr => TrL.nil) (fun C X' r hr _ => ?elt)) ?_
    case src =>
      refine Ev.conv (Ev.bin (x := .dat (.list ((fixedL.map fun n : Nat => (n : Int)).map .int))) (y := .dat (.list ((xs.map PyData.int).take 4))) (Ev.name (by kernel_rfl)) (Ev.conv (Ev.sliceL (ds := xs.map PyData.int) (lo := none) (hi := some ((4 : Nat) : Int)) (Ev.name (by kernel_rfl)) trivial Ev.const_int (list_le (by rw [List.length_map]; lia))) (congrArg (fun z => VD.dat (.list z)) pick_take)) (addL ?_)) ?_
      · rw [List.length_map, List.length_map, List.length_take]; exact list_le (Nat.lt_of_le_of_lt (Nat.add_le_add_left (Nat.min_le_left _ _) 9) (by decide))
      · rw [List.map_append, List.map_take]
    case len =>
      rw [List.length_append, List.length_map, List.length_take]; exact list_le (Nat.lt_of_le_of_lt (Nat.add_le_add_left (Nat.min_le_left _ _) 9) (by decide))
    case elt =>
      exact Ev.bin (x := I r) (y := I 1000000) (Ev.name (by kernel_rfl)) (Ev.conv (Ev.bin (x := I 10) (y := I 6) Ev.const_int Ev.const_int (powI (by decide) (by decide))) (by rfl)) (modI (by decide))
    · rw [drawsOf_eq]
end
end Mine
set_option maxRecDepth 100000
set_option maxHeartbeats 2000000
namespace Mine
open PySem PySem.W PyProof.Rows PySem.Calls

noncomputable def tabs2 : List (Addr × Addr) := [(233, 229), (243, 241)]
noncomputable def tb1 : Tb := ⟨233, 229, lamPosOf (defBody (theDef 17)), "_law_least_first" ++ ".<locals>." ++ "<lambda>"⟩
noncomputable def tb2 : Tb := ⟨243, 241, lamPosA (defBody (theDef 19)), "_law_change" ++ ".<locals>." ++ "<lambda>"⟩
noncomputable def gnd (h : Heap) (mg mb : Str → Option Value) : Gn := ⟨ghostOf h tabs2, [tb1, tb2], 182, mg, mb⟩
noncomputable def Hx0 : Hx := ⟨48, 53, 83, 121, 146, codeN0, codeV0, 0, 0⟩
theorem hnum0 : HNum Hx0 := ⟨rfl, rfl, rfl, rfl⟩
noncomputable def Lx0 : Lx := { fdel := 102, fset := 97, addh := 179, tLeast := tb1, tChange := tb2, least := 234, goes := 239, change := 244, bridges := 227, key := 206, ranks := 213, left := 220, comp := 199 }
section
variable {w : World} {h : Heap} {mg mb : Str → Option Value}
theorem ky_of (Y : YX w h) : (Ky w.params).In h := fun a o e => Y a o (by
  have h1 : a ≠ 229 := fun q => by subst q; cases e
  have h2 : a ≠ 241 := fun q => by subst q; cases e
  show List.lookup a ((229, _) :: (241, _) :: Ky w.params) = some o
  rw [List.lookup_cons, beq_eq_false_iff_ne.mpr h1, List.lookup_cons, beq_eq_false_iff_ne.mpr h2]
  exact e)
theorem tabs_of (Y : YX w h) : TabsAt tabs2 h := fun q hq => by
  rcases List.mem_cons.mp hq with rfl | hq
  · exact ⟨⟨_, _, _, _, _, _, _, _, _, Y 233 _ rfl, rfl, rfl, rfl, rfl, rfl, rfl, rfl, rfl, by decide⟩, Y 229 _ rfl⟩
  · rw [List.mem_singleton.mp hq]
    exact ⟨⟨_, _, _, _, _, _, _, _, _, Y 243 _ rfl, rfl, rfl, rfl, rfl, rfl, rfl, rfl, rfl, by decide⟩, Y 241 _ rfl⟩
theorem kg_of (Y : YX w h) : (Ky w.params).In (gnd h mg mb).B := ghost_K (tabs_of Y) (ky_of Y) k_notabs
theorem gd_of (Y : YX w h) : Gd (gnd h mg mb) h := by
  refine ⟨⟨fun b o e => of_hideAll _ e⟩, fun t ht => ?_⟩
  have code := ghost_code (tabs_of Y)
  rcases List.mem_cons.mp ht with rfl | ht
  · exact ⟨hideAll_none _ (.head _), code.1, #[], Y 229 _ rfl, trivial, .inl rfl⟩
  · rw [List.mem_singleton.mp ht]
    exact ⟨hideAll_none _ (.tail _ (.head _)), code.2.1, #[], Y 241 _ rfl, trivial, .inl rfl⟩
end
section
variable {prog p : Program} {loose : List Str} {mean : ExcName → Option Value} {w : World} {h : Heap} {mg mb : Str → Option Value} (Y : YX w h) (T : Top p loose mean mg mb h)
include Y T
theorem glm_of : GLm (gnd h mg mb) := by
  have hT := tabs_of Y
  refine ⟨⟨ghost_ns hT T.g, ghost_ns hT T.b, let ⟨mc, a, r⟩ := T.nolimit; ⟨mc, ghost_ns hT a, r⟩⟩, let ⟨bm, ob, a1, a2, a3, a4, r⟩ := T.bmain; ⟨bm, ob, a1, a2, ghost_get hT a3 (fun q => by rw [q] at a4; cases a4), a4, r⟩, fun t t' h1 h2 e => ?_⟩
  rcases List.mem_cons.mp h1 with rfl | h1 <;> rcases List.mem_cons.mp h2 with rfl | h2
  · rfl
  · rw [List.mem_singleton.mp h2] at e; cases e
  · rw [List.mem_singleton.mp h1] at e; cases e
  · rw [List.mem_singleton.mp h1, List.mem_singleton.mp h2]
theorem bi_of {x : Str} {v : Value} (hn : nsIn (Ky w.params) mainGlobals x = some none) (hv : bootBuiltins x = some v) (hx : x ≠ "__name__") : BiAt (gnd h mg mb) x v := ⟨mg_none_of (ky_of Y) T.g hn, (T.builtins x hx).trans hv⟩
theorem bis_of : Bis (gnd h mg mb) := ⟨bi_of Y T (by kernel_rfl) (by kernel_rfl) (by decide), bi_of Y T (by kernel_rfl) (by kernel_rfl) (by decide), bi_of Y T (by kernel_rfl) (by kernel_rfl) (by decide), bi_of Y T (by kernel_rfl) (by kernel_rfl) (by decide), bi_of Y T (by kernel_rfl) (by kernel_rfl) (by decide), bi_of Y T (by kernel_rfl) (by kernel_rfl) (by decide), bi_of Y T (by kernel_rfl) (by kernel_rfl) (by decide), bi_of Y T (by kernel_rfl) (by kernel_rfl) (by decide), bi_of Y T (by kernel_rfl) (by kernel_rfl) (by decide)⟩
theorem mgk {x : Str} {v : Value} (hn : nsIn (Ky w.params) mainGlobals x = some (some v)) : (gnd h mg mb).mg x = some v := mg_of (ky_of Y) T.g hn
theorem kp_of : KpEnv prog w (gnd h mg mb) Hx0 Lx0 192 191 76 := by
  have X := kg_of (mg := mg) (mb := mb) Y
  have hG := glm_of Y T
  have hB := bis_of Y T
  have me : ∀ {name : Str} {f : Addr}, findIn (Ky w.params) (.ref 182) name = some (some (.ref f)) → typeIn (Ky w.params) (.ref f) = some (.type "function") → (∀ k t a n, shadowIn (some (dictOf [⟨k, .str "_headers" t, .ref a⟩] n)) name = some false) → Meth prog w (gnd h mg mb) name f := fun a b c => meth_of rfl X a b c
  have hE : HdEnv prog w (gnd h mg mb) Hx0 := ⟨hG, hB, hdattr_of rfl X, mgk Y T (by kernel_rfl), mgk Y T (by kernel_rfl), pat_48 X, pat_53 X, ⟨_, fn_83 X, rfl⟩, me (by kernel_rfl) (by kernel_rfl) (fun _ _ _ _ => by rfl), ⟨_, fn_146 X⟩, me (by kernel_rfl) (by kernel_rfl) (fun _ _ _ _ => by rfl), ⟨_, fn_121 X⟩, me (by kernel_rfl) (by kernel_rfl) (fun _ _ _ _ => by rfl)⟩
  refine { toChEnv := { toGoEnv := { hE := hE, ops := hdops_of rfl X, delF := ⟨_, fn_102 X⟩, setF := ⟨_, fn_97 X⟩, addF := ⟨_, fn_179 X⟩, addM := me (by kernel_rfl) (by kernel_rfl) (fun _ _ _ _ => by rfl), leastF := ⟨_, fn_234 X, .head _, rfl, rfl, rfl⟩, leastG := mgk Y T (by kernel_rfl), goesF := ⟨_, fn_239 X⟩, goesG := mgk Y T (by kernel_rfl) }, bridgesF := ⟨_, fn_227 X⟩, bridgesG := mgk Y T (by kernel_rfl) }, ver := ⟨hG.toGOk, verok X (mgk Y T (by kernel_rfl)), mgk Y T (by kernel_rfl), pat_191 X, hB.int', bi_of Y T (by kernel_rfl) (by kernel_rfl) (by decide)⟩, new := ?_, keyF := ⟨_, fn_206 X⟩, keyG := mgk Y T (by kernel_rfl), ranksF := ⟨_, fn_213 X⟩, ranksG := mgk Y T (by kernel_rfl), leftF := ⟨_, fn_220 X⟩, leftG := mgk Y T (by kernel_rfl), compF := ⟨_, fn_199 X⟩, compG := mgk Y T (by kernel_rfl), changeF := ⟨_, fn_244 X, .tail _ (.head _), rfl, rfl, rfl⟩, changeG := mgk Y T (by kernel_rfl) }
  refine ⟨mgk Y T (by kernel_rfl), ⟨69, 0, _, "__init__", "Headers.__init__", .none, .none, .str "cpy313.wsgiref.headers" 289, .ref 75, .none, rfl, ⟨_, X 76 _ rfl, rfl⟩, ⟨_, _, _, _, rfl, X 75 _ rfl, rfl, rfl⟩, _, X 69 _ rfl, rfl⟩, fun h' g => ?_, hdset_of rfl X, hG.nolimit⟩
  have X' := X.keeps g.fr.keep
  exact ⟨makes_of X' k_makes, looks_findIn X' (by kernel_rfl), fun self => bind_fn X' self (by kernel_rfl)⟩
end
end Mine
set_option maxRecDepth 100000
set_option maxHeartbeats 400000
namespace Mine
open PySem PySem.W PyProof.Rows PySem.Calls

theorem ints_rd {X : Addr → Prop} {h : Heap} : ∀ {vs : List Value} {xs : List Int}, IntsAre vs xs → RdL X h vs (xs.map .int)
  | _, _, .nil => .nil
  | _, _, .cons n t r => .cons (.int n t) (ints_rd r)
theorem aok_caller : Aok callerA 17 := ⟨rfl, by decide +kernel, by decide +kernel⟩
theorem caller_depth : callerA.depth < recursionLimit := by decide +kernel
section
variable {prog : Program} {w : World} {G : Gn} {H : Hx} {s : Shared}
theorem frOut_one (env : Env) (hk : env.scope.kind ≠ .module) (hf : env.frame = some env.locals) (o : Obj) : FrOut [(env.locals, o)] (callerA.deeper env) :=
  ⟨[env], rfl, fun e he => by
    rw [List.mem_singleton.mp he]
    exact ⟨hk, _, .head _, hf⟩⟩
theorem law_call {L : Lx} {d re fI a ak l : Addr} {fd : FuncData} {vs : List Value} {xs : List Int} (hL : KpEnv prog w G H L d re fI) (hH : HNum H) (hkG : G.mg "_law_kept" = some (.ref ak)) (hk : ∃ kfd, IsFn G ak (theDef 20) kfd) (h : IsFn G a (theDef 21) fd)
    (g : Gd G s.heap) (hj : ∀ b, G.jk b → ∃ o, s.heap.get? b = some o) (nj : ¬ G.jk l) (hl : s.heap.get? l = some { cls := .type "list", data := .seq vs.toArray }) (hI : IntsAre vs xs) (hx : xs.length ≤ 63) :
    codeK Un.und (model prog w) callerA (.call (.ref a) ⟨[.ref l], []⟩) (fun r s' => match r with | .ok (.ret v) => v = .bool true ∧ QS G (fun b => b ∈ ([] : List Addr)) s s' | .ok _ => False | .error e => FF e s') s := by
  obtain ⟨nm, q, kd, doc, pm, cv, ct, rfl⟩ := h.is
  refine call_of_def (X := G.jk) (σ := [("script", .dat (.list (xs.map .int)))]) (cs := []) (Wr := []) (xs := [.dat (.list (xs.map .int))]) (Q := fun f _ _ _ => f = .ret (Bo true)) (R := fun v s' => v = .bool true ∧ QS G (fun b => b ∈ ([] : List Addr)) s s')
    hL.hE.glm.toGOk (h.def rfl rfl rfl) (show ([("script" : Str)]).Nodup by decide) (fun k x hx => ?_) (bind1 fun v => rfl) caller_depth ⟨g, fun _ h => h, hj⟩ (fun a h => absurd h List.not_mem_nil) (fun a h => absurd h List.not_mem_nil) List.nodup_nil (.cons (.list nj hl (ints_rd hI)) .nil)
    (fun L' => law_body hL hH hkG hk hx (aok_caller.deeper _) rfl rfl (frOut_one _ (show (defScope (theDef 21)).kind ≠ .module by decide) rfl)) ?_
  · simp only [List.map_cons, List.map_nil, List.mem_singleton] at hx
    subst hx
    exact .inl rfl
  · intro L f W' σ' cs'' s₃ _ e _ q _ v r
    subst e
    exact ⟨Rd.bool_inv r, q⟩
end
end Mine
set_option maxRecDepth 100000
set_option maxHeartbeats 0
namespace Mine
open PySem PySem.W PyProof.Rows PySem.Spec PySem.Calls
noncomputable def keepAt : List Nat := [0, 1, 3, 4, 5, 7, 9, 10, 11, 13, 14, 15, 16, 17, 18, 19, 20, 21]
noncomputable def vw : Program := { PySem.Challenge.pw_ph0150_01 with main := { PySem.Challenge.pw_ph0150_01.main with body := keepAt.filterMap fun i => PySem.Challenge.pw_ph0150_01.main.body[i]? } }
noncomputable def lse : List PySem.Str := ["tspecials", "_name_disallowed_re", "_value_disallowed_re", "_formatparam", "_twin_re_1", "_ver_stages"]
noncomputable def posOf : Stmt → Pos | .FunctionDef _ _ _ _ _ _ _ _ _ p => p | _ => default
noncomputable def lawRec : DefRec := ⟨"law", defArgs (theDef 21), defBody (theDef 21), defScope (theDef 21), posOf (theDef 21)⟩
theorem said : PySem.Challenge.rw_ph0150_01.wellSaid = true := by kernel_rfl
theorem headed {α : Type} {Yf : Shared → α} {Ya : World → α} {YP : World → Heap → Prop} (left : LeftO PySem.Challenge.pw_ph0150_01 vw lse (fun s => xlAt vw [] s && recOk [] s) Yf Ya 3290)
    (hY : ∀ w s, Yf s = Ya w → YP w s.heap) (hYk : ∀ w h h', YP w h → (∀ b o, h.get? b = some o → h'.get? b = some o) → YP w h') (call : WalkK vw lse (XL vw []) YP PySem.Challenge.rw_ph0150_01.row.toRowW lawRec []) : PySem.Challenge.rw_ph0150_01.Holds := by
  refine holds_law said fun said => ?_
  refine headK (q := vw) (loose := lse) (Xt := fun s => xlAt vw [] s && recOk [] s) (XP := XL vw []) (Yf := Yf) (Ya := Ya) (YP := YP) (N := 3290) left hY hYk (fun s e => xl_of s (Bool.and_eq_true_iff.mp e).1) XL.keeps ?_ ?_ ?_ (fun s e => recFacts_of (Bool.and_eq_true_iff.mp e).2) rfl said ?_ ⟨rfl, rfl, rfl, rfl, rfl, ?_⟩ ?_ call
  · kernel_rfl
  · kernel_rfl
  · kernel_rfl
  · kernel_rfl
  · kernel_rfl
  · w_witness2
end Mine
set_option maxRecDepth 100000
set_option maxHeartbeats 400000
namespace Mine
open PySem PySem.W PyProof.Rows PySem.Calls PySem.Spec

/-- what the law leaves -/
theorem old_of {w : World} {mg mb : Str → Option Value} {s s' : Shared} (Y : YX w s.heap) (q : QS (gnd s.heap mg mb) (fun b => b ∈ ([] : List Addr)) s s') : OldK s.heap s'.heap := by
  have hT := tabs_of Y
  have g := q.gd (gd_of Y)
  have tab : ∀ b o, (gnd s.heap mg mb).jk b → s.heap.get? b = some o → isCodeTable s.heap b ∧ o = tabObj #[] ∧ ∃ ps, s'.heap.get? b = some (tabObj ps) := fun b o hb e => by
    obtain ⟨t, ht, rfl⟩ := hb
    obtain ⟨_, _, ps, e2, _⟩ := g.tb t ht
    have hq : (t.c, t.P) ∈ tabs2 := by
      rcases List.mem_cons.mp ht with rfl | ht
      · exact .head _
      · rw [List.mem_singleton.mp ht]; exact .tail _ (.head _)
    have h2 := hT _ hq
    have e3 := h2.2
    rw [e] at e3
    exact ⟨(h2.1.tab h2.2).isCodeTable, Option.some.inj e3, ps, e2⟩
  refine ⟨fun b o e => ?_, fun b o e => q.live b o e⟩
  rcases Classical.em ((gnd s.heap mg mb).jk b) with j | j
  · obtain ⟨ht, rfl, ps, hP⟩ := tab b o j e
    exact .inr (.inl ⟨ht, rfl, #[], ps, rfl, by rw [Array.empty_append]; exact hP⟩)
  · exact .inl (q.keep b o List.not_mem_nil j e)
theorem gjk {w : World} {mg mb : Str → Option Value} {h : Heap} (Y : YX w h) : (∀ b, (gnd h mg mb).jk b → ∃ o, h.get? b = some o ∧ o.cls = .none) := fun b ⟨t, ht, e⟩ => by
  obtain ⟨_, _, ps, e2, _⟩ := (gd_of (mg := mg) (mb := mb) Y).tb t ht
  exact ⟨_, e ▸ e2, rfl⟩
theorem ground_call {w : World} {s : Shared} {mg mb : Str → Option Value} {p : Program} {loose : List Str} {mean : ExcName → Option Value} {prog : Program} (Y : YX w s.heap) (T : Top p loose mean mg mb s.heap) {l : Addr} {vs : List Value} {xs : List Int}
    (hl : s.heap.get? l = some { cls := .type "list", data := .seq vs.toArray }) (hI : IntsAre vs xs) (hx : xs.length ≤ 63) :
    codeK Un.und (model prog w) callerA (.call (.ref 254) ⟨[.ref l], []⟩) (fun r s' => match r with | .ok (.ret v) => v = .bool true ∧ QS (gnd s.heap mg mb) (fun b => b ∈ ([] : List Addr)) s s' | .ok _ => False | .error e => FF e s') s := by
  have X := kg_of (mg := mg) (mb := mb) Y
  have hk : (gnd s.heap mg mb).mg "_law_kept" = some (.ref 249) := mgk Y T (by kernel_rfl)
  exact law_call (kp_of (prog := prog) Y T) hnum0 hk ⟨_, fn_249 X⟩ (fn_254 X) (gd_of Y) (fun b h => let ⟨o, e, _⟩ := gjk Y b h; ⟨o, e⟩) (fun h => by
    obtain ⟨o, e, c⟩ := gjk Y l h
    rw [hl] at e
    cases e
    cases c) hl hI hx
theorem the_walk : WalkK vw lse (XL vw []) YX PySem.Challenge.rw_ph0150_01.row.toRowW lawRec [] := by
  intro w s₀ s₁ mg mb Gr Y a o pm cd doc dV kV ho hd hcd hD hmg hgens args vals as hpre hlay hrd hwl hlo
  have T := Gr.T
  have hm : mg lawRec.name = some (.ref 254) := mgk (mb := mb) Y T (x := "law") (by kernel_rfl)
  rw [hmg] at hm
  cases hm
  clear hd hcd hD ho
  wrow_args hpre hlay hrd hwl hlo
  rename_i xs hs hlay0 hLy hr1 hl2 as1 as2 l vs as3 hL ra w1 r0 hI hr hcond ht
  have hl : s₁.heap.get? l = some { cls := .type "list", data := .seq vs.toArray } := by
    obtain ⟨o, e1, e2, n, e3⟩ := hL
    cases w1 with
    | list e _ =>
      rw [e1] at e
      cases e
      cases e3
      exact e1
  refine codeK_mono (ground_call Y T hl hI (by lia)) fun r s' h => ?_
  cases r with
  | error e => exact h.elim
  | ok f =>
    cases f with
    | ret v =>
      obtain ⟨rfl, q⟩ := h
      obtain ⟨h', tk, e⟩ := q.same
      refine ⟨⟨.inl ⟨.bool true, .bool true, [], rfl, fun _ => rfl, .bool true, by wrow_post, fun _ => ⟨List.nodup_nil, fun _ h => absurd h List.not_mem_nil⟩⟩, old_of Y q, by rw [e], .of_eq (by rw [e]; exact hgens)⟩, fun f hf => ?_⟩
      cases hf
      exact ⟨_, rfl⟩
    | _ => exact h.elim
end Mine
set_option maxRecDepth 100000
set_option maxHeartbeats 0
namespace Mine
open PySem PySem.W PyProof.Rows
theorem left0f (w : World) : (openEnds treeTable PySem.Challenge.pw_ph0150_01 (w.withFollow "special-get-raises" false) 3290).map (fun s => (openSeen vw lse (importedModules PySem.Challenge.pw_ph0150_01.main.body) (fun s => xlAt vw [] s && recOk [] s) true s, asX.map s.heap.get?)) = some (openGood vw lse, (Kx (w.withFollow "special-get-raises" false).params).map fun p => some p.2) := by
  unfold openEnds fencedOpening topFrom
  rw [PySem.W.Fast.te10274390034422433532, PySem.W.Fast.te1435165496053646825, PySem.W.Fast.te14289696077712309145, PySem.W.Fast.te14364793385576792824, PySem.W.Fast.te14082659384304107361, PySem.W.Fast.te4187177175401517315, PySem.W.Fast.te8920871248978507458, PySem.W.Fast.te5923862056798008813]
  kernel_rfl
theorem left0t (w : World) : (openEnds treeTable PySem.Challenge.pw_ph0150_01 (w.withFollow "special-get-raises" true) 3290).map (fun s => (openSeen vw lse (importedModules PySem.Challenge.pw_ph0150_01.main.body) (fun s => xlAt vw [] s && recOk [] s) true s, asX.map s.heap.get?)) = some (openGood vw lse, (Kx (w.withFollow "special-get-raises" true).params).map fun p => some p.2) := by
  unfold openEnds fencedOpening topFrom
  rw [PySem.W.Fast.te10274390034422433532, PySem.W.Fast.te1435165496053646825, PySem.W.Fast.te14289696077712309145, PySem.W.Fast.te14364793385576792824, PySem.W.Fast.te14082659384304107361, PySem.W.Fast.te4187177175401517315, PySem.W.Fast.te8920871248978507458, PySem.W.Fast.te5923862056798008813]
  kernel_rfl
theorem left0 : LeftO PySem.Challenge.pw_ph0150_01 vw lse (fun s => xlAt vw [] s && recOk [] s) (fun s => asX.map s.heap.get?) (fun w => (Kx w.params).map fun p => some p.2) 3290 := fun w =>
  byRow2 "special-get-raises" (P := fun w => (openEnds treeTable PySem.Challenge.pw_ph0150_01 w 3290).map (fun s => (openSeen vw lse (importedModules PySem.Challenge.pw_ph0150_01.main.body) (fun s => xlAt vw [] s && recOk [] s) true s, asX.map s.heap.get?)) = some (openGood vw lse, (Kx w.params).map fun p => some p.2)) left0f left0t w
end Mine
open PySem PySem.W PyProof.Rows
theorem PySem.Challenge.cw_ph0150_01_holds : PySem.Challenge.rw_ph0150_01.Holds := by
  exact Mine.headed Mine.left0 (fun w s e => Mine.YX.of w s e) Mine.YX.keeps Mine.the_walk
