import PyProof.Rows.All
import Wide.All
import OpenK.AllK
import Wide.FinOn
import PySem.Challenge.RW_pe0029_01
set_option Elab.async false

section -- Hd
open PySem PySem.W PyProof.Rows
namespace Mine
set_option maxRecDepth 100000
set_option maxHeartbeats 8000000
open_top hd for PySem.Challenge.rw_pe0029_01
end Mine
end

section -- WpC
open PySem PySem.W PyProof.Rows
namespace Mine
open Sem (wp)

/-- the claim's caller lies at or below the context -/
def HC (Γ : Ctx) : Prop := ∃ c ∈ Γ.code :: Γ.below.map (·.1), c.isCaller = true
def HB (Γ : Ctx) : Prop := ∃ c ∈ Γ.below.map (·.1), c.isCaller = true
theorem HB.hc {Γ : Ctx} (h : HB Γ) : HC Γ := let ⟨c, m, e⟩ := h; ⟨c, .tail _ m, e⟩
theorem HC.enter {Γ : Ctx} (h : HC Γ) (c : Code) (hd : Option Value) (p : Pos) : HB (Γ.enter c hd p) := by
  obtain ⟨c', m, e⟩ := h
  refine ⟨c', ?_, e⟩
  show c' ∈ ((Γ.code, p) :: Γ.below).map (·.1)
  exact m
theorem HB.goto {Γ : Ctx} (h : HB Γ) (c : Code) : HB (Γ.goto c) := h

/-- as wpAny, in contexts under the claim's caller -/
def wpC {α : Type} (M : Model) (A : Around) (t : Sem α) (Q : α → Shared → Prop) (E : Value → Shared → Prop) (s : Shared) : Prop :=
  ∀ Γ p, Γ.In A → HC Γ → wp M Γ t (fun a _ s' => Q a s') (fun e _ s' => E e s') p s
def codeC (M : Model) (A : Around) (c : Code) (R : Result → Shared → Prop) (s : Shared) : Prop :=
  ∀ Γ p, Γ.code = c → Γ.Below A → HB Γ → wpCode M Γ R p s

section
variable {α β : Type} {M : Model} {A : Around} {E : Value → Shared → Prop} {s : Shared}
theorem wpC_of_any {t : Sem α} {Q : α → Shared → Prop} (h : wpAny M A t Q E s) : wpC M A t Q E s := fun Γ p hΓ _ => h Γ p hΓ
theorem codeC_of_any {c : Code} {R : Result → Shared → Prop} (h : codeAny M A c R s) : codeC M A c R s := fun Γ p hc hΓ _ => h Γ p hc hΓ
theorem wpC_pure {a : α} {Q : α → Shared → Prop} (h : Q a s) : wpC M A (pure a) Q E s := fun _ _ _ _ => h
theorem wpC_mono {t : Sem α} {Q Q' : α → Shared → Prop} {E' : Value → Shared → Prop} (h : wpC M A t Q E s)
    (hQ : ∀ a s, Q a s → Q' a s) (hE : ∀ e s, E e s → E' e s) : wpC M A t Q' E' s :=
  fun Γ p hΓ hc => Sem.wp_mono M Γ t (fun a _ s => hQ a s) (fun e _ s => hE e s) p s (h Γ p hΓ hc)
theorem wpC_bind {m : Sem α} {f : α → Sem β} {Q : β → Shared → Prop} (h : wpC M A m (fun a s' => wpC M A (f a) Q E s') E s) :
    wpC M A (m >>= f) Q E s := fun Γ p hΓ hc => by
  rw [Sem.wp_bind']
  exact Sem.wp_mono M Γ m (fun a p' s' h' => h' Γ p' hΓ hc) (fun _ _ _ h' => h') p s (h Γ p hΓ hc)
theorem wpC_onRaise {m : Sem α} {k : Value → Sem Unit} {Q : α → Shared → Prop}
    (h : wpC M A m Q (fun e s' => wpC M A (k e) (fun _ s'' => E e s'') E s') s) : wpC M A (m.onRaise k) Q E s := fun Γ p hΓ hc => by
  rw [Sem.wp_onRaise]
  exact Sem.wp_mono M Γ m (fun _ _ _ h' => h') (fun e p' s' h' => h' Γ p' hΓ hc) p s (h Γ p hΓ hc)
theorem wpC_attempt {m : Sem α} {Q : Except Value α → Shared → Prop} (h : wpC M A m (fun a => Q (.ok a)) (fun e => Q (.error e)) s) :
    wpC M A m.attempt Q E s := fun Γ p hΓ hc => by rw [Sem.wp_attempt]; exact h Γ p hΓ hc
theorem wpC_holding {vs : List Value} {m : Sem α} {Q : α → Shared → Prop} (h : wpC M A m Q E s) : wpC M A (holding vs m) Q E s :=
  fun Γ p hΓ hc => by rw [Sem.wp_holding]; exact h Γ p hΓ hc
theorem wpC_ite {c : Prop} [Decidable c] {a b : Sem α} {Q : α → Shared → Prop} (h : if c then wpC M A a Q E s else wpC M A b Q E s) :
    wpC M A (if c then a else b) Q E s := by split <;> simp_all
theorem wpC_run {c : Code} {h : Option Value} {Q : Flow → Shared → Prop}
    (hc : codeC M (A.mark h) c (fun r s' => match r with | .ok f => Q f s' | .error e => E e s') s) (hnb : h ≠ some byPass := by intro x; cases x) :
    wpC M A (run c h) Q E s :=
  fun Γ p hΓ hh => by rw [Sem.wp_run]; exact hc _ p rfl (hΓ.enter c h p hnb) (hh.enter c h p)
theorem wpC_call {f : Value} {pos : List Value} {kw : List (Str × Value)} {Q : Value → Shared → Prop}
    (hc : codeC M A (.call f ⟨pos, kw⟩) (fun r s' => match r with | .ok (.ret v) => Q v s' | .ok _ => False | .error e => E e s') s) :
    wpC M A (call f pos kw) Q E s := fun Γ p hΓ hh => by
  show wp M Γ (runValue (.call f ⟨pos, kw⟩)) _ _ p s
  rw [Sem.wp_runValue]; exact hc _ p rfl (hΓ.enter _ none p (by intro x; cases x)) (hh.enter _ none p)
theorem codeC_of_tree {c : Code} {R : Result → Shared → Prop}
    (h : wpC M (A.under c) (M.den c) (fun fin s' => match fin with | .done f => R (.ok f) s' | .again c' => c'.quiet = true ∧ codeC M A c' R s')
      (fun e s' => R (.error e) s') s) : codeC M A c R s := fun Γ p hc hΓ hh => by
  rw [wpCode_iff_wp, hc]
  refine Sem.wp_mono M Γ _ (fun fin p' s' h' => ?_) (fun _ _ _ h' => h') p s (h Γ p (hc ▸ hΓ.in) hh.hc)
  cases fin with
  | done f => exact h'
  | again c' => exact ⟨h'.1, h'.2 (Γ.goto c') p' rfl (hΓ.goto c') (hh.goto c')⟩
theorem codeC_mono {c : Code} {R R' : Result → Shared → Prop} (h : codeC M A c R s) (hR : ∀ r s, R r s → R' r s) : codeC M A c R' s :=
  fun Γ p hc hΓ hh => let ⟨r, s', h1, h2⟩ := h Γ p hc hΓ hh; ⟨r, s', h1, hR _ _ h2⟩
theorem codeC_loop {c : Code} {R : Result → Shared → Prop} (hq : c.quiet = true) (I : Nat → Shared → Prop)
    (turn : ∀ n s, I n s → wpC M (A.under c) (M.den c)
      (fun fin s' => match fin with
        | .done f => R (.ok f) s'
        | .again c' => (c' = c ∧ ∃ m, m < n ∧ I m s') ∨ (c'.quiet = true ∧ codeC M A c' R s')) (fun e s' => R (.error e) s') s)
    (n : Nat) (h : I n s) : codeC M A c R s := by
  induction n using Nat.strongRecOn generalizing s with
  | ind n ih =>
    refine codeC_of_tree (wpC_mono (turn n s h) (fun fin s' hf => ?_) fun _ _ h' => h')
    cases fin with
    | done f => exact hf
    | again c' =>
      rcases hf with ⟨rfl, m, hm, hI⟩ | hf
      · exact ⟨hq, ih m hm hI⟩
      · exact hf

/-- the mark of a refusal is left only where no claim's caller lies below -/
theorem wpC_mark {own : List String} {e : Value} {Q : Unit → Shared → Prop} (h : Q () s) : wpC M A (markTheRefusal own e) Q E s := fun Γ p hΓ hh => by
  unfold markTheRefusal
  rw [Sem.wp_bind']
  unfold stack
  rw [Sem.wp_stack]
  obtain ⟨c, m, hc⟩ := hh
  have hno : pythonCodeMadeTheCall own (((Γ.code, p) :: Γ.below).map (·.1)) = false := by
    unfold pythonCodeMadeTheCall
    rw [Bool.and_eq_false_iff]; left
    rw [Bool.and_eq_false_iff]; left
    rw [Bool.not_eq_false', List.any_eq_true]
    refine ⟨c, m, ?_⟩
    unfold Code.isCaller at hc
    split at hc
    · rfl
    · cases hc
  rw [Sem.wp_pure]
  rw [if_neg (by rw [hno]; exact Bool.false_ne_true)]
  exact h
end

section
variable {M : Model} {A : Around} {E : Value → Shared → Prop} {s : Shared} {env : Env}
theorem wpC_execs_cons {st : Stmt} {rest : List Stmt} {Q : Flow → Shared → Prop}
    (h : wpC M A (exec st env) (fun f s' => match f with | .next => wpC M A (execs rest env) Q E s' | f => Q f s') E s) :
    wpC M A (execs (st :: rest) env) Q E s := fun Γ p hΓ hc => by
  rw [execs_cons, Sem.wp_bind']
  refine Sem.wp_mono M Γ _ (fun f p' s' h' => ?_) (fun _ _ _ h' => h') _ _ (h Γ p hΓ hc)
  cases f <;> first | exact h' Γ p' hΓ hc | exact h'
theorem wpC_If {test : Expr} {body orelse : List Stmt} {pos : Pos} {Q : Flow → Shared → Prop}
    (h : wpAny M A (isTrue test env (eval test env))
      (fun b s₂ => if b then wpC M A (execs body env) Q E s₂ else wpC M A (execs orelse env) Q E s₂) E s) :
    wpC M A (exec (.If test body orelse pos) env) Q E s := fun Γ p hΓ hc => by
  simp only [exec_If, Sem.wp_bind', Sem.wp_cmd_standAt]
  refine Sem.wp_mono M Γ _ (fun b p₂ s₂ h₂ => ?_) (fun _ _ _ h' => h') _ _ (h Γ _ hΓ)
  cases b <;> exact h₂ Γ p₂ hΓ hc
theorem wpC_runOwn {c : Code} {h : Option Value} {Q : Flow → Shared → Prop}
    (hc : codeC M (A.mark h) c (fun r s' => match r with | .ok f => Q f s' | .error e => cameBackBy M A env E e s') s) (hnb : h ≠ some byPass := by intro x; cases x) :
    wpC M A (runOwn c env h) Q E s := by
  unfold runOwn
  refine wpC_onRaise (wpC_run (codeC_mono hc fun r s' hr => ?_) hnb)
  cases r with
  | ok f => exact hr
  | error e => exact wpC_of_any hr
theorem wpC_For {target iter : Expr} {body orelse : List Stmt} {pos : Pos} {Q : Flow → Shared → Prop}
    (h : wpAny M A (eval iter env) (fun x s₁ => wpAny M A (pyIter x) (fun it s₂ =>
      codeC M A (.forLoop target it body orelse env) (fun r s' => match r with | .ok f => Q f s' | .error e => cameBackBy M A env E e s') s₂) E s₁) E s)
    (hs : ∀ x, foldedSetIterable iter env x = pure x := by intro _; rfl) :
    wpC M A (exec (.For target iter body orelse pos) env) Q E s := by
  rw [exec_For]
  refine wpC_bind (wpC_of_any (wpAny_standAt (wpC_bind (wpC_of_any (wpAny_mono h (fun x s₁ h₁ => ?_) fun _ _ h' => h')))))
  refine wpC_bind ?_
  rw [hs x]
  refine wpC_pure (wpC_bind (wpC_of_any (wpAny_standAt (wpC_bind (wpC_holding (wpC_of_any (wpAny_mono h₁ (fun it s₂ h₂ => ?_) fun _ _ h' => h')))))))
  exact wpC_runOwn h₂
theorem wpC_tryStmt {body orelse : Sem Flow} {h₀ : ExceptHandler} {hs : List ExceptHandler} {Q : Flow → Shared → Prop}
    (h : wpC M A body (fun f s₁ => match f with | .next => wpAny M A orelse Q E s₁ | f => Q f s₁)
      (fun e s₁ => wpAny M A (noteFrame e env) (fun _ s₂ => wpAny M A (setFlight e none) (fun _ s₃ => wpAny M A (handleBy e env (h₀ :: hs)) Q E s₃) E s₂) E s₁) s) :
    wpC M A (tryStmt false body (h₀ :: hs) orelse [] env) Q E s := by
  unfold tryStmt
  simp only [List.isEmpty_nil, if_true, List.isEmpty_cons, Bool.false_and, Bool.false_eq_true, if_false]
  refine wpC_bind (wpC_attempt (wpC_mono h (fun f s₁ h₁ => ?_) fun e s₁ h₁ => ?_))
  · cases f <;> first | exact wpC_of_any h₁ | exact wpC_pure h₁
  · exact wpC_of_any (wpAny_bind (wpAny_mono h₁ (fun _ _ h₂ => wpAny_bind h₂) fun _ _ x => x))
theorem wpC_Try {body orelse : List Stmt} {h₀ : ExceptHandler} {hs : List ExceptHandler} {pos : Pos} {Q : Flow → Shared → Prop}
    (h : wpC M A (execs body env) (fun f s₁ => match f with | .next => wpAny M A (execs orelse env) Q E s₁ | f => Q f s₁)
      (fun e s₁ => wpAny M A (noteFrame e env) (fun _ s₂ => wpAny M A (setFlight e none) (fun _ s₃ => wpAny M A (handleBy e env (h₀ :: hs)) Q E s₃) E s₂) E s₁) s) :
    wpC M A (exec (.Try body (h₀ :: hs) orelse [] pos) env) Q E s := by
  rw [arm_exec_Try]
  exact wpC_bind (wpC_of_any (wpAny_standAt (wpC_tryStmt h)))
end

section
variable {prog : Program} {w : World} {A : Around} {E : Value → Shared → Prop} {R : Result → Shared → Prop} {s : Shared}
theorem codeC_func {body : List Stmt} {env : Env}
    (h : wpC (model prog w) (A.deeper env) (execs body env) (fun f s' => R (.ok (.ret (match f with | .ret v => v | _ => .none))) s') (fun _ _ => False) s) :
    codeC (model prog w) A (.func body env) R s := by
  refine codeC_of_tree ?_
  show wpC _ (A.deeper env) (do point; match ← (execs body env).onRaise (leaving env) with | .ret v => ret v | _ => ret .none) _ _ s
  refine wpC_bind (wpC_of_any (wpAny_point (wpC_bind (wpC_onRaise (wpC_mono h (fun f s' h' => ?_) fun _ _ h' => h'.elim)))))
  cases f <;> exact wpC_pure h'
theorem codeC_call_function {a : Addr} {args : Args} {o : Obj} {fd : FuncData} {body : List Stmt} (hroom : A.depth < recursionLimit)
    (ho : s.heap.get? a = some o)
    (hd' : o.data = .func fd) (hco : fd.scope.isCoroutine = false) (hgen : fd.scope.isGenerator = false) (hbody : fd.body = .stmts body) (hcd : s.heap.CodeRec fd.code fd.qualname)
    (h : wpAny (model prog w) A.in1 (bindArgs fd args) (fun binds s₁ =>
      wpAny (model prog w) A.in1 (newFunctionEnv fd.scope fd.globals fd.closure binds (fd.qualname ++ ".<locals>.") (some a) fd.code none fd.builtins)
        (fun env s₂ => s₂.heap.NoLimit ∧ codeC (model prog w) A (.func body env) R s₂) (fun e s' => R (.error e) s') s₁) (fun e s' => R (.error e) s') s) :
    codeC (model prog w) A (.call (.ref a) args) R s := by
  refine codeC_of_tree (wpC_of_any ?_)
  show wpAny _ A.in1 (callAny (.ref a) args) _ _ s
  simp only [callAny]
  refine wpAny_bind (wpAny_load ho ?_)
  obtain ⟨c, oc, vs, tq, hc, hoc, hdc, hq⟩ := hcd
  simp only [hd', callFunction, hco, hgen, hbody, hc]
  rw [hc] at h
  refine wpAny_bind (m := field (.ref c) 1) (wpAny_field hoc hdc hq (wpAny_bind (wpAny_pure ?_)))
  exact wpAny_bind (wpAny_mono h (fun binds s₁ h₁ => wpAny_bind (wpAny_mono h₁ (fun env s₂ h₂ => wpAny_bind (wpAny_enterFrame h₂.1 hroom
    (wpAny_pure (And.intro rfl h₂.2)))) fun _ _ h' => h')) fun _ _ h' => h')
theorem callC_plain {name : Str} {params : Arguments} {body : List Stmt} {scope : Scope}
    {pm cd doc : Value} {a : Addr} {o : Obj} {args : List Value} {binds : List (Str × Value)}
    (hroom : A.depth < recursionLimit) (ho : s.heap.get? a = some o) (hdata : o.data = .func (Calls.docDef name params body scope pm cd doc)) (hlim : s.heap.NoLimit) (hcd : s.heap.CodeRec cd name)
    (hbind : bindArgs (Calls.docDef name params body scope pm cd doc) ⟨args, []⟩ = pure binds)
    (hloc : ∀ x ∈ binds, scope.names.lookup x.1 = some .local)
    (h : ∀ h₁, Fr s.heap s.heap.objs.size h₁ (fun x => binds.reverse.lookup x) →
      wpC (model prog w) (A.deeper (envOf name scope s.heap.objs.size a cd)) (execs body (envOf name scope s.heap.objs.size a cd))
        (fun f s' => R (.ok (.ret (match f with | .ret v => v | _ => .none))) s') (fun _ _ => False)
        { s with heap := h₁, toks := s.toks + binds.length })
    (hco : scope.isCoroutine = false := by rfl) (hgen : scope.isGenerator = false := by rfl) (hk : scope.kind = .function := by rfl)
    (hcell : ∀ x ∈ scope.names, x.2 ≠ .cell := by decide) :
    codeC (model prog w) A (.call (.ref a) ⟨args, []⟩) R s := by
  refine codeC_call_function hroom ho hdata hco hgen rfl hcd ?_
  rw [hbind]
  refine wpAny_pure (wpAny_newFunctionEnv hcell hloc (fun h₁ hns hsb => ⟨hlim.fresh _ hsb, ?_⟩) hk)
  show codeC _ _ (.func body (envOf name scope s.heap.objs.size a cd)) _ _
  exact codeC_func (h h₁ ⟨hns, fun b o e => hsb.extBut b o (Nat.ne_of_lt (Heap.lt_size e)) (Heap.get?_push_of_some _ e), Nat.le_refl _⟩)
end
end Mine
end

section -- HdC
open PySem PySem.W PySem.Calls PyProof.Rows
namespace Mine

theorem caller_hc : HC (⟨.builtin "claim.caller" {}, none, none, [], none⟩ : Ctx) := ⟨_, .head _, rfl⟩

theorem threadC {prog : Program} {w : World} {t : Sem Fin} {s : Shared} {R : Result → Shared → Prop} (hreg : s.asleep)
    (h : wpC (model prog w) callerA t (fun fin s' => ∃ f, fin = .done f ∧ (R (.ok f) s' ∧ leftWithCleanup s'.gens = false)) (fun e s' => R (.error e) s' ∧ leftWithCleanup s'.gens = false) s) :
    ∃ n r s' s'', runN (denote table) prog w n s ⟨t, .builtin "claim.caller" {}, default, []⟩ = .halted (outcomeOf r) s' ∧
      schedN (denote table) prog w n (.single s ⟨t, .builtin "claim.caller" {}, default, []⟩) = .halted (outcomeOf r) s' ∧ s'.forget = s''.forget ∧ R r s'' := by
  have h1 : Sem.wp (model prog w) ⟨.builtin "claim.caller" {}, none, none, [], none⟩ t (Sem.finPost (model prog w) ⟨.builtin "claim.caller" {}, none, none, [], none⟩ fun r s' => R r s' ∧ leftWithCleanup s'.gens = false)
      (fun e _ s' => R (.error e) s' ∧ leftWithCleanup s'.gens = false) default s := by
    refine Sem.wp_mono _ _ t (fun fin p' s' h' => ?_) (fun _ _ _ h' => h') default s (h _ default caller_in caller_hc)
    obtain ⟨f, rfl, hf⟩ := h'
    exact hf
  obtain ⟨n, r, s₁, s₂, hs, hn, hfo, hR⟩ := wp_halts_full (M := model prog w) (R := R) hreg h1
  exact ⟨n, r, s₂, s₁, hn, hs, hfo, hR⟩

theorem callFromC {c : ClaimW} {tree : List Value → Sem Fin} {w : World} {s : Shared} {free : Addr → Prop} {gens : Prop} {kept : Heap → Prop} (hz : s.asleep) (hgens : s.gens = #[])
    (hspec : ∀ args, c.pre args = true → WData.layableAll args = true →
      ∀ ord : List DictEntry → List DictEntry, (∀ l, (ord l).Perm l) →
      ∃ vs s₁, layAllW c.records (classAt s.heap) w.params ord args s = some (vs, s₁) ∧
        wpC (model c.prog w) callerA (tree vs) (fun fin s' => ∃ f, fin = .done f ∧ (c.Ends s args vs s₁ (.ok f) s' ∧ s'.os = s.os ∧ AllBare s'.gens ∧ kept s'.heap))
          (fun e s' => c.Ends s args vs s₁ (.error e) s' ∧ s'.os = s.os ∧ AllBare s'.gens ∧ kept s'.heap) s₁) :
    c.CallFrom (fun vs => ⟨tree vs, .builtin "claim.caller" {}, default, []⟩) w free gens kept s := by
  intro args hpre hlay ord hord
  obtain ⟨vs, s₁, hlaid, hcode⟩ := hspec args hpre hlay ord hord
  have hal := layAllW_rest _ _ _ hlaid
  obtain ⟨k, r, s', s'', hrun, hsched, hfo, hcase, hos, hkp⟩ := threadC (prog := c.prog) (w := w) (t := tree vs) (s := s₁)
    (R := fun r s' => c.Ends s args vs s₁ r s' ∧ s'.os = s.os ∧ kept s'.heap)
    (Shared.asleep_of_life hal.2.2.2 hz)
    (wpC_mono hcode (by
      rintro fin s' ⟨f, e, h1, h2, h3, h4⟩
      exact ⟨f, e, ⟨h1, h2, h4⟩, leftWithCleanup_false_of_bare h3⟩) (by
      rintro e s' ⟨h1, h2, h3, h4⟩
      exact ⟨⟨h1, h2, h4⟩, leftWithCleanup_false_of_bare h3⟩))
  obtain ⟨eh, _, _, eo, _⟩ := Shared.forget_eq hfo
  have hcase := hcase.congr eh
  have hkp : kept s'.heap := by first | exact eh ▸ hkp | (rw [eh] at hkp; exact hkp) | (rw [← eh] at hkp; exact hkp)
  rw [← eo] at hos
  have hlife : s'.heap.life = s.heap.life := (runN_life _ _ _ hrun).trans hal.2.2.2
  refine ⟨vs, s₁, hlaid, k, _, s', hsched, ?_, (fun _ i x hx => by rw [hgens] at hx; simp at hx), hkp, by rw [hlife], Shared.rest_eq hos⟩
  rcases hcase with ⟨v, rfl, d1, d2, d3, d4, d5⟩ | ⟨e, ob, cls, rfl, d1, d2, d3, d4, d5⟩
  · exact .inl ⟨v, rfl, d1, d2, d3, fun b o y _ => d4 b o y, d5⟩
  · exact .inr ⟨e, ob, cls, rfl, d1, d2, d3, d4, fun b o y _ => d5 b o y⟩

/-- what is asked of the law's call, under the claim's caller -/
abbrev WalkC (q : Program) (loose : List Str) (XP : (Str → Option Value) → Heap → Prop) (YP : World → Heap → Prop) (r : RowW) (d : DefRec) (kwd : List (Str × Expr)) : Prop :=
  ∀ (w : World) (s₀ s₁ : Shared) (mg mb : Str → Option Value), Ground q loose r.records XP w s₀ mg mb s₁.heap → YP w s₁.heap → ∀ (a : Addr) (o : Obj) (pm cd doc dV kV : Value), s₁.heap.get? a = some o →
    o.data = .func { docDef d.name d.params d.body d.scope pm cd doc with defaults := dV, kwdefaults := kV } → s₁.heap.CodeRec cd d.name → Dflts mg s₁.heap d.params kwd dV kV → mg d.name = some (.ref a) → s₁.gens = #[] →
    ∀ (args : List WData) (vals : List Value) (as : List Addr), r.claim.pre args = true → WData.layableAll args = true → ReadsAllW r.records (classAt s₀.heap) s₁.heap vals args as → WellAll w.params s₁.heap vals args → (∀ a ∈ as, (a == sysModules) = false) →
      wpC (model r.prog w) callerA (PySem.call (.ref a) vals) (fun v s' => GoodWG r.claim (classAt s₀.heap) (ExcName.means s₀.heap) args s₁ (.ok (.ret v)) s')
        (fun e s' => GoodWG r.claim (classAt s₀.heap) (ExcName.means s₀.heap) args s₁ (.error e) s') s₁

theorem holdsOpenC {r : OpenRow} {q : Program} {loose : List Str} {Xt : Shared → Bool} {XP : (Str → Option Value) → Heap → Prop} {α : Type} {Yf : Shared → α} {Ya : World → α} {YP : World → Heap → Prop} {d : DefRec} {kwd : List (Str × Expr)} {N : Nat}
    (left : LeftO r.prog q loose Xt Yf Ya N) (hY : ∀ w s, Yf s = Ya w → YP w s.heap) (hYk : ∀ w h h', YP w h → (∀ b o, h.get? b = some o → h'.get? b = some o) → YP w h')
    (hX : ∀ s, Xt s = true → XP (s.heap.nsMap mainGlobals) s.heap) (hXk : ∀ mg h h', XP mg h → (∀ b o, h.get? b = some o → h'.get? b = some o) → XP mg h')
    (hdef : defOf q r.name = some (d, kwd)) (hp : r.prog.theDef r.name = some (d.params, d.body, d.scope)) (hk : kwWritten? d.params.kwonlyargs d.params.kw_defaults = some kwd) (hRf : ∀ s, Xt s = true → RecFacts r.records s.heap) (hwr : (!r.writes || r.records.isEmpty) = true)
    (k1 : r.wellSaid = true) (ok : (chainsOk q && opensWell r.prog && (frees r.toRowW && r.within.isEmpty)) = true) (hb : r.prog.bare) (hw : r.toRowW.promised)
    (call : WalkC q loose XP YP r.toRowW d kwd) : r.Holds := by
  refine ⟨k1, hw, ?_⟩
  obtain ⟨ok, k5⟩ := Bool.and_eq_true_iff.mp ok
  obtain ⟨hch, o1⟩ := Bool.and_eq_true_iff.mp ok
  obtain ⟨k5, k6⟩ := Bool.and_eq_true_iff.mp k5
  obtain ⟨hsame, hu, ha, hap, hm⟩ := frees_parts k5
  refine ⟨⟨hb, o1, by show r.makers.map _ = []; rw [hm]; rfl⟩, hw.witness, fun w => ⟨(left.behind hX hch w).1, fun s' hs' => ?_⟩⟩
  obtain ⟨s₀, hf, hg0, s, hT, hz, hgens, hg, G00, y⟩ := (left.behind (XP := fun mg h => XP mg h ∧ RecFacts r.records h) (fun s hs => ⟨hX s hs, hRf s hs⟩) hch w).2 s' hs'
  have G0 : Ground q loose [] XP w s (s.heap.nsMap mainGlobals) (s.heap.nsMap builtinsNs) s.heap := ⟨G00.T, G00.B, G00.D, G00.TE, G00.TD, G00.W, G00.X.1, G00.cls, G00.has, G00.apart, G00.once, G00.K⟩
  have RF := G00.X.2
  have hT' := hT
  refine ⟨s₀, hf, hg0, s, hT, fun n hn => ?_, RF.1, RF.2.1, ?_⟩
  · obtain rfl : n = r.name := by split at hn <;> simp_all
    exact pinned_of_view hg G0 hdef hp hk
  have hgens : s.gens = #[] := Array.eq_empty_of_size_eq_zero (beq_iff_eq.mp hgens)
  have G : Ground q loose r.records XP w s _ _ s.heap := RF.ground G0
  refine callFromC (c := r.toRowW.claim) hz hgens fun args hpre hlay ord hord => ?_
  obtain ⟨⟨vs, s₁⟩, hlaid⟩ := Option.isSome_iff_exists.mp (layAllW_isSome (P := w.params) (ord := ord) G.has args r.args s (pre_splitW hpre).1)
  have keeps := layAllW_keeps _ _ _ hlaid
  have hal := layAllW_rest _ _ _ hlaid
  obtain ⟨as, hrd, hin, hold⟩ := reads_layAllW hord _ _ _ hlaid hlay s₁.heap (fun _ _ e => e)
  have L : Laid r.records w s s₁ args vs as := ⟨⟨ord, hord, hlaid⟩, hrd, hin, hold, keeps, hal.1.trans hgens, hal.2.2.1⟩
  have G₁ := G.keeps hXk keeps
  have hi := ident_freeW hu ha hap
  have hwi : r.toRowW.claim.within = [] := List.isEmpty_iff.mp k6
  obtain ⟨a, o, pm, cd, doc, dV, kV, h1, h2, h3, h4, h5⟩ := G₁.fn hdef
  have h := call w s s₁ _ _ G₁ (hYk _ _ _ (hY w s y) keeps) a o pm cd doc dV kV h2 h3 h4 h5 (defOf_name hdef ▸ h1) L.gens args vs as hpre hlay L.reads L.well (L.low G.low)
  refine ⟨vs, s₁, hlaid, ?_⟩
  refine wpC_bind (wpC_of_any (wpAny_nsGet G₁.T.g ?_))
  rw [h1]
  refine wpC_bind (wpC_mono h (fun v s' g => ?_) fun e s' g => ?_)
  · have z := g.laid (c := r.toRowW.claim) hsame hwi hi L
    exact wpC_pure ⟨_, rfl, z.1, z.2.1, z.2.2, fun q => ⟨namesKept_of hT' hg _ keeps g.2.1.old, noTable hwr q⟩⟩
  · have z := g.laid (c := r.toRowW.claim) hsame hwi hi L
    exact ⟨z.1, z.2.1, z.2.2, fun q => ⟨namesKept_of hT' hg _ keeps g.2.1.old, noTable hwr q⟩⟩
end Mine
end

section -- HdL
open PySem PySem.W PySem.Calls PyProof.Rows
namespace Mine
set_option maxRecDepth 100000
set_option maxHeartbeats 8000000

theorem left_top : LeftO PySem.Challenge.rw_pe0029_01.row.prog hd.view_39 [Str.ofString "_twin_re_1", Str.ofString "_ver_stages"]
    (fun s => xlAt hd.view_39 [] s && recOk PySem.Challenge.rw_pe0029_01.row.toRowW.records s)
    (Hook.obs (kHook hd.heap_39 [2, 3, 6, 11, 12, 35, 36, 37, 38, 40, 41, 43, 44, 45, 47, 48, 50, 51, 52, 54, 55, 57, 58, 59, 62, 63, 64, 67, 68, 69, 71, 72, 74, 75] (fun _ => by kernel_rfl)))
    (Hook.val (kHook hd.heap_39 [2, 3, 6, 11, 12, 35, 36, 37, 38, 40, 41, 43, 44, 45, 47, 48, 50, 51, 52, 54, 55, 57, 58, 59, 62, 63, 64, 67, 68, 69, 71, 72, 74, 75] (fun _ => by kernel_rfl))) 1696 := by
  refine LeftO.of_split "special-get-raises" ?_
  intro w
  kernel_rfl
end Mine
end

section -- Base
open PySem PySem.W PyProof.Rows
namespace Mine

theorem frPut {h₀ h : Heap} {L : Addr} {m : Str → Option Value} {x : Str} {v : Value} (F : Fr h₀ L h m) (hx : m x = some v) :
    Fr h₀ L h (fun y => if y = x then some v else m y) := by
  have e : (fun y => if y = x then some v else m y) = m := by
    funext y
    by_cases q : y = x
    · subst q; simp [hx]
    · simp [q]
  rw [e]; exact F


theorem putEq {m : Str → Option Value} {x : Str} {v : Value} (hx : m x = some v) : (fun y => if y = x then some v else m y) = m := by
  funext y
  by_cases q : y = x
  · subst q; simp [hx]
  · simp [q]
theorem frPut2 {h₀ h : Heap} {L : Addr} {m : Str → Option Value} {x1 x2 : Str} {v1 v2 : Value} (F : Fr h₀ L h m) (e1 : m x1 = some v1) (e2 : m x2 = some v2) :
    Fr h₀ L h (fun y => if y = x2 then some v2 else if y = x1 then some v1 else m y) := by
  have q1 := putEq e1
  have q2 := putEq e2
  have z : (fun y => if y = x1 then some v1 else m y) = m := by
    funext y
    (repeat' split) <;> simp_all
  have z' : (fun y => if y = x2 then some v2 else if y = x1 then some v1 else m y) = m := by
    funext y
    have := congrFun z y
    by_cases q : y = x2
    · subst q; simp [e2]
    · rw [if_neg q]; exact this
  rw [z']; exact F
theorem frPut3 {h₀ h : Heap} {L : Addr} {m : Str → Option Value} {x1 x2 x3 : Str} {v1 v2 v3 : Value} (F : Fr h₀ L h m) (e1 : m x1 = some v1) (e2 : m x2 = some v2) (e3 : m x3 = some v3) :
    Fr h₀ L h (fun y => if y = x3 then some v3 else if y = x2 then some v2 else if y = x1 then some v1 else m y) := by
  have q1 := putEq e1
  have q2 := putEq e2
  have q3 := putEq e3
  have z : (fun y => if y = x2 then some v2 else if y = x1 then some v1 else m y) = m := by
    funext y
    (repeat' split) <;> simp_all
  have z' : (fun y => if y = x3 then some v3 else if y = x2 then some v2 else if y = x1 then some v1 else m y) = m := by
    funext y
    have := congrFun z y
    by_cases q : y = x3
    · subst q; simp [e3]
    · rw [if_neg q]; exact this
  rw [z']; exact F
theorem frPut4 {h₀ h : Heap} {L : Addr} {m : Str → Option Value} {x1 x2 x3 x4 : Str} {v1 v2 v3 v4 : Value} (F : Fr h₀ L h m) (e1 : m x1 = some v1) (e2 : m x2 = some v2) (e3 : m x3 = some v3) (e4 : m x4 = some v4) :
    Fr h₀ L h (fun y => if y = x4 then some v4 else if y = x3 then some v3 else if y = x2 then some v2 else if y = x1 then some v1 else m y) := by
  have q1 := putEq e1
  have q2 := putEq e2
  have q3 := putEq e3
  have q4 := putEq e4
  have z : (fun y => if y = x3 then some v3 else if y = x2 then some v2 else if y = x1 then some v1 else m y) = m := by
    funext y
    (repeat' split) <;> simp_all
  have z' : (fun y => if y = x4 then some v4 else if y = x3 then some v3 else if y = x2 then some v2 else if y = x1 then some v1 else m y) = m := by
    funext y
    have := congrFun z y
    by_cases q : y = x4
    · subst q; simp [e4]
    · rw [if_neg q]; exact this
  rw [z']; exact F
theorem frPut5 {h₀ h : Heap} {L : Addr} {m : Str → Option Value} {x1 x2 x3 x4 x5 : Str} {v1 v2 v3 v4 v5 : Value} (F : Fr h₀ L h m) (e1 : m x1 = some v1) (e2 : m x2 = some v2) (e3 : m x3 = some v3) (e4 : m x4 = some v4) (e5 : m x5 = some v5) :
    Fr h₀ L h (fun y => if y = x5 then some v5 else if y = x4 then some v4 else if y = x3 then some v3 else if y = x2 then some v2 else if y = x1 then some v1 else m y) := by
  have q1 := putEq e1
  have q2 := putEq e2
  have q3 := putEq e3
  have q4 := putEq e4
  have q5 := putEq e5
  have z : (fun y => if y = x4 then some v4 else if y = x3 then some v3 else if y = x2 then some v2 else if y = x1 then some v1 else m y) = m := by
    funext y
    (repeat' split) <;> simp_all
  have z' : (fun y => if y = x5 then some v5 else if y = x4 then some v4 else if y = x3 then some v3 else if y = x2 then some v2 else if y = x1 then some v1 else m y) = m := by
    funext y
    have := congrFun z y
    by_cases q : y = x5
    · subst q; simp [e5]
    · rw [if_neg q]; exact this
  rw [z']; exact F
theorem frPut6 {h₀ h : Heap} {L : Addr} {m : Str → Option Value} {x1 x2 x3 x4 x5 x6 : Str} {v1 v2 v3 v4 v5 v6 : Value} (F : Fr h₀ L h m) (e1 : m x1 = some v1) (e2 : m x2 = some v2) (e3 : m x3 = some v3) (e4 : m x4 = some v4) (e5 : m x5 = some v5) (e6 : m x6 = some v6) :
    Fr h₀ L h (fun y => if y = x6 then some v6 else if y = x5 then some v5 else if y = x4 then some v4 else if y = x3 then some v3 else if y = x2 then some v2 else if y = x1 then some v1 else m y) := by
  have q1 := putEq e1
  have q2 := putEq e2
  have q3 := putEq e3
  have q4 := putEq e4
  have q5 := putEq e5
  have q6 := putEq e6
  have z : (fun y => if y = x5 then some v5 else if y = x4 then some v4 else if y = x3 then some v3 else if y = x2 then some v2 else if y = x1 then some v1 else m y) = m := by
    funext y
    (repeat' split) <;> simp_all
  have z' : (fun y => if y = x6 then some v6 else if y = x5 then some v5 else if y = x4 then some v4 else if y = x3 then some v3 else if y = x2 then some v2 else if y = x1 then some v1 else m y) = m := by
    funext y
    have := congrFun z y
    by_cases q : y = x6
    · subst q; simp [e6]
    · rw [if_neg q]; exact this
  rw [z']; exact F
theorem frPut7 {h₀ h : Heap} {L : Addr} {m : Str → Option Value} {x1 x2 x3 x4 x5 x6 x7 : Str} {v1 v2 v3 v4 v5 v6 v7 : Value} (F : Fr h₀ L h m) (e1 : m x1 = some v1) (e2 : m x2 = some v2) (e3 : m x3 = some v3) (e4 : m x4 = some v4) (e5 : m x5 = some v5) (e6 : m x6 = some v6) (e7 : m x7 = some v7) :
    Fr h₀ L h (fun y => if y = x7 then some v7 else if y = x6 then some v6 else if y = x5 then some v5 else if y = x4 then some v4 else if y = x3 then some v3 else if y = x2 then some v2 else if y = x1 then some v1 else m y) := by
  have q1 := putEq e1
  have q2 := putEq e2
  have q3 := putEq e3
  have q4 := putEq e4
  have q5 := putEq e5
  have q6 := putEq e6
  have q7 := putEq e7
  have z : (fun y => if y = x6 then some v6 else if y = x5 then some v5 else if y = x4 then some v4 else if y = x3 then some v3 else if y = x2 then some v2 else if y = x1 then some v1 else m y) = m := by
    funext y
    (repeat' split) <;> simp_all
  have z' : (fun y => if y = x7 then some v7 else if y = x6 then some v6 else if y = x5 then some v5 else if y = x4 then some v4 else if y = x3 then some v3 else if y = x2 then some v2 else if y = x1 then some v1 else m y) = m := by
    funext y
    have := congrFun z y
    by_cases q : y = x7
    · subst q; simp [e7]
    · rw [if_neg q]; exact this
  rw [z']; exact F
theorem frPut8 {h₀ h : Heap} {L : Addr} {m : Str → Option Value} {x1 x2 x3 x4 x5 x6 x7 x8 : Str} {v1 v2 v3 v4 v5 v6 v7 v8 : Value} (F : Fr h₀ L h m) (e1 : m x1 = some v1) (e2 : m x2 = some v2) (e3 : m x3 = some v3) (e4 : m x4 = some v4) (e5 : m x5 = some v5) (e6 : m x6 = some v6) (e7 : m x7 = some v7) (e8 : m x8 = some v8) :
    Fr h₀ L h (fun y => if y = x8 then some v8 else if y = x7 then some v7 else if y = x6 then some v6 else if y = x5 then some v5 else if y = x4 then some v4 else if y = x3 then some v3 else if y = x2 then some v2 else if y = x1 then some v1 else m y) := by
  have q1 := putEq e1
  have q2 := putEq e2
  have q3 := putEq e3
  have q4 := putEq e4
  have q5 := putEq e5
  have q6 := putEq e6
  have q7 := putEq e7
  have q8 := putEq e8
  have z : (fun y => if y = x7 then some v7 else if y = x6 then some v6 else if y = x5 then some v5 else if y = x4 then some v4 else if y = x3 then some v3 else if y = x2 then some v2 else if y = x1 then some v1 else m y) = m := by
    funext y
    (repeat' split) <;> simp_all
  have z' : (fun y => if y = x8 then some v8 else if y = x7 then some v7 else if y = x6 then some v6 else if y = x5 then some v5 else if y = x4 then some v4 else if y = x3 then some v3 else if y = x2 then some v2 else if y = x1 then some v1 else m y) = m := by
    funext y
    have := congrFun z y
    by_cases q : y = x8
    · subst q; simp [e8]
    · rw [if_neg q]; exact this
  rw [z']; exact F

theorem frUnder1 {h₀ h : Heap} {L : Addr} {m : Str → Option Value} {x : Str} {v : Value} {x1 : Str} {v1 : Value} (F : Fr h₀ L h (fun y => if y = x then some v else m y)) (e1 : m x1 = some v1) :
    Fr h₀ L h (fun y => if y = x then some v else if y = x1 then some v1 else m y) := by
  have z : (fun y => if y = x1 then some v1 else m y) = m := by
    funext y
    (repeat' split) <;> simp_all
  have z' : (fun y => if y = x then some v else if y = x1 then some v1 else m y) = (fun y => if y = x then some v else m y) := by
    funext y; by_cases q : y = x
    · rw [if_pos q, if_pos q]
    · rw [if_neg q, if_neg q]; exact congrFun z y
  rw [z']; exact F
theorem frUnder2 {h₀ h : Heap} {L : Addr} {m : Str → Option Value} {x : Str} {v : Value} {x1 x2 : Str} {v1 v2 : Value} (F : Fr h₀ L h (fun y => if y = x then some v else m y)) (e1 : m x1 = some v1) (e2 : m x2 = some v2) :
    Fr h₀ L h (fun y => if y = x then some v else if y = x2 then some v2 else if y = x1 then some v1 else m y) := by
  have z : (fun y => if y = x2 then some v2 else if y = x1 then some v1 else m y) = m := by
    funext y
    (repeat' split) <;> simp_all
  have z' : (fun y => if y = x then some v else if y = x2 then some v2 else if y = x1 then some v1 else m y) = (fun y => if y = x then some v else m y) := by
    funext y; by_cases q : y = x
    · rw [if_pos q, if_pos q]
    · rw [if_neg q, if_neg q]; exact congrFun z y
  rw [z']; exact F
theorem frUnder3 {h₀ h : Heap} {L : Addr} {m : Str → Option Value} {x : Str} {v : Value} {x1 x2 x3 : Str} {v1 v2 v3 : Value} (F : Fr h₀ L h (fun y => if y = x then some v else m y)) (e1 : m x1 = some v1) (e2 : m x2 = some v2) (e3 : m x3 = some v3) :
    Fr h₀ L h (fun y => if y = x then some v else if y = x3 then some v3 else if y = x2 then some v2 else if y = x1 then some v1 else m y) := by
  have z : (fun y => if y = x3 then some v3 else if y = x2 then some v2 else if y = x1 then some v1 else m y) = m := by
    funext y
    (repeat' split) <;> simp_all
  have z' : (fun y => if y = x then some v else if y = x3 then some v3 else if y = x2 then some v2 else if y = x1 then some v1 else m y) = (fun y => if y = x then some v else m y) := by
    funext y; by_cases q : y = x
    · rw [if_pos q, if_pos q]
    · rw [if_neg q, if_neg q]; exact congrFun z y
  rw [z']; exact F
theorem frUnder4 {h₀ h : Heap} {L : Addr} {m : Str → Option Value} {x : Str} {v : Value} {x1 x2 x3 x4 : Str} {v1 v2 v3 v4 : Value} (F : Fr h₀ L h (fun y => if y = x then some v else m y)) (e1 : m x1 = some v1) (e2 : m x2 = some v2) (e3 : m x3 = some v3) (e4 : m x4 = some v4) :
    Fr h₀ L h (fun y => if y = x then some v else if y = x4 then some v4 else if y = x3 then some v3 else if y = x2 then some v2 else if y = x1 then some v1 else m y) := by
  have z : (fun y => if y = x4 then some v4 else if y = x3 then some v3 else if y = x2 then some v2 else if y = x1 then some v1 else m y) = m := by
    funext y
    (repeat' split) <;> simp_all
  have z' : (fun y => if y = x then some v else if y = x4 then some v4 else if y = x3 then some v3 else if y = x2 then some v2 else if y = x1 then some v1 else m y) = (fun y => if y = x then some v else m y) := by
    funext y; by_cases q : y = x
    · rw [if_pos q, if_pos q]
    · rw [if_neg q, if_neg q]; exact congrFun z y
  rw [z']; exact F
theorem frUnder5 {h₀ h : Heap} {L : Addr} {m : Str → Option Value} {x : Str} {v : Value} {x1 x2 x3 x4 x5 : Str} {v1 v2 v3 v4 v5 : Value} (F : Fr h₀ L h (fun y => if y = x then some v else m y)) (e1 : m x1 = some v1) (e2 : m x2 = some v2) (e3 : m x3 = some v3) (e4 : m x4 = some v4) (e5 : m x5 = some v5) :
    Fr h₀ L h (fun y => if y = x then some v else if y = x5 then some v5 else if y = x4 then some v4 else if y = x3 then some v3 else if y = x2 then some v2 else if y = x1 then some v1 else m y) := by
  have z : (fun y => if y = x5 then some v5 else if y = x4 then some v4 else if y = x3 then some v3 else if y = x2 then some v2 else if y = x1 then some v1 else m y) = m := by
    funext y
    (repeat' split) <;> simp_all
  have z' : (fun y => if y = x then some v else if y = x5 then some v5 else if y = x4 then some v4 else if y = x3 then some v3 else if y = x2 then some v2 else if y = x1 then some v1 else m y) = (fun y => if y = x then some v else m y) := by
    funext y; by_cases q : y = x
    · rw [if_pos q, if_pos q]
    · rw [if_neg q, if_neg q]; exact congrFun z y
  rw [z']; exact F
theorem frUnder6 {h₀ h : Heap} {L : Addr} {m : Str → Option Value} {x : Str} {v : Value} {x1 x2 x3 x4 x5 x6 : Str} {v1 v2 v3 v4 v5 v6 : Value} (F : Fr h₀ L h (fun y => if y = x then some v else m y)) (e1 : m x1 = some v1) (e2 : m x2 = some v2) (e3 : m x3 = some v3) (e4 : m x4 = some v4) (e5 : m x5 = some v5) (e6 : m x6 = some v6) :
    Fr h₀ L h (fun y => if y = x then some v else if y = x6 then some v6 else if y = x5 then some v5 else if y = x4 then some v4 else if y = x3 then some v3 else if y = x2 then some v2 else if y = x1 then some v1 else m y) := by
  have z : (fun y => if y = x6 then some v6 else if y = x5 then some v5 else if y = x4 then some v4 else if y = x3 then some v3 else if y = x2 then some v2 else if y = x1 then some v1 else m y) = m := by
    funext y
    (repeat' split) <;> simp_all
  have z' : (fun y => if y = x then some v else if y = x6 then some v6 else if y = x5 then some v5 else if y = x4 then some v4 else if y = x3 then some v3 else if y = x2 then some v2 else if y = x1 then some v1 else m y) = (fun y => if y = x then some v else m y) := by
    funext y; by_cases q : y = x
    · rw [if_pos q, if_pos q]
    · rw [if_neg q, if_neg q]; exact congrFun z y
  rw [z']; exact F
theorem frUnder7 {h₀ h : Heap} {L : Addr} {m : Str → Option Value} {x : Str} {v : Value} {x1 x2 x3 x4 x5 x6 x7 : Str} {v1 v2 v3 v4 v5 v6 v7 : Value} (F : Fr h₀ L h (fun y => if y = x then some v else m y)) (e1 : m x1 = some v1) (e2 : m x2 = some v2) (e3 : m x3 = some v3) (e4 : m x4 = some v4) (e5 : m x5 = some v5) (e6 : m x6 = some v6) (e7 : m x7 = some v7) :
    Fr h₀ L h (fun y => if y = x then some v else if y = x7 then some v7 else if y = x6 then some v6 else if y = x5 then some v5 else if y = x4 then some v4 else if y = x3 then some v3 else if y = x2 then some v2 else if y = x1 then some v1 else m y) := by
  have z : (fun y => if y = x7 then some v7 else if y = x6 then some v6 else if y = x5 then some v5 else if y = x4 then some v4 else if y = x3 then some v3 else if y = x2 then some v2 else if y = x1 then some v1 else m y) = m := by
    funext y
    (repeat' split) <;> simp_all
  have z' : (fun y => if y = x then some v else if y = x7 then some v7 else if y = x6 then some v6 else if y = x5 then some v5 else if y = x4 then some v4 else if y = x3 then some v3 else if y = x2 then some v2 else if y = x1 then some v1 else m y) = (fun y => if y = x then some v else m y) := by
    funext y; by_cases q : y = x
    · rw [if_pos q, if_pos q]
    · rw [if_neg q, if_neg q]; exact congrFun z y
  rw [z']; exact F
theorem frUnder8 {h₀ h : Heap} {L : Addr} {m : Str → Option Value} {x : Str} {v : Value} {x1 x2 x3 x4 x5 x6 x7 x8 : Str} {v1 v2 v3 v4 v5 v6 v7 v8 : Value} (F : Fr h₀ L h (fun y => if y = x then some v else m y)) (e1 : m x1 = some v1) (e2 : m x2 = some v2) (e3 : m x3 = some v3) (e4 : m x4 = some v4) (e5 : m x5 = some v5) (e6 : m x6 = some v6) (e7 : m x7 = some v7) (e8 : m x8 = some v8) :
    Fr h₀ L h (fun y => if y = x then some v else if y = x8 then some v8 else if y = x7 then some v7 else if y = x6 then some v6 else if y = x5 then some v5 else if y = x4 then some v4 else if y = x3 then some v3 else if y = x2 then some v2 else if y = x1 then some v1 else m y) := by
  have z : (fun y => if y = x8 then some v8 else if y = x7 then some v7 else if y = x6 then some v6 else if y = x5 then some v5 else if y = x4 then some v4 else if y = x3 then some v3 else if y = x2 then some v2 else if y = x1 then some v1 else m y) = m := by
    funext y
    (repeat' split) <;> simp_all
  have z' : (fun y => if y = x then some v else if y = x8 then some v8 else if y = x7 then some v7 else if y = x6 then some v6 else if y = x5 then some v5 else if y = x4 then some v4 else if y = x3 then some v3 else if y = x2 then some v2 else if y = x1 then some v1 else m y) = (fun y => if y = x then some v else m y) := by
    funext y; by_cases q : y = x
    · rw [if_pos q, if_pos q]
    · rw [if_neg q, if_neg q]; exact congrFun z y
  rw [z']; exact F

/-- Euclid's quotients -/
def quots (a b : Int) : List Int :=
  if _h : 0 < b then (a / b) :: quots b (a % b) else []
termination_by b.toNat
decreasing_by
  have h1 := Int.emod_nonneg a (Int.ne_of_gt _h)
  have h2 := Int.emod_lt_of_pos a _h
  omega

theorem quots_pos {a b : Int} (h : 0 < b) : quots a b = (a / b) :: quots b (a % b) := by
  rw [quots]; simp [h]
theorem quots_neg {a b : Int} (h : ¬ 0 < b) : quots a b = [] := by
  rw [quots]; simp [h]
end Mine
end

section -- Q1
open PySem PySem.W PyProof.Rows
namespace Mine
set_option maxRecDepth 100000
set_option maxHeartbeats 8000000

theorem quot_call {w : World} {mean : ExcName → Option Value} {mg mb : Str → Option Value} {e : Env} {s : Shared} {R : Result → Shared → Prop} {a b : Int} {ta tb : Tok}
    (T : Top hd.view_39 (looseW hd.view_39 [Str.ofString "_twin_re_1", Str.ofString "_ver_stages"]) mean mg mb s.heap)
    (KX : (hd.heap_39 w.params).In s.heap) (hb : 0 ≤ b) (hb' : b < 100000) (ha : -100000 < a) (ha' : a < 100000)
    (hR : ∀ l vs n h' tk, s.heap.StaysIn h' → s.heap.get? l = none → h'.get? l = some (W.listOf vs n) → IntsAre vs.toList (quots a b) → R (.ok (.ret (.ref l))) { s with heap := h', toks := tk }) :
    codeAny (model PySem.Challenge.rw_pe0029_01.row.prog w) (callerA.deeper e) (.call (.ref 58) ⟨[.int a ta, .int b tb], []⟩) R s := by
  refine call_plain_ret (binds := [(Str.ofString "top", .int a ta), (Str.ofString "bottom", .int b tb)]) (by k_room) (KX 58 _ rfl) rfl T.nolimit (codeRec_of KX rfl) rfl (by simp only [List.forall_mem_cons]; exact ⟨rfl, rfl, by simp⟩) ?_
  intro h₁ F
  have N : News s.heap s.heap.objs.size h₁ [] := News.nil
  repeat' (first | (k_unfold; (try dsimp only)) | ((fail_if_success (with_reducible show wpAny _ _ (exec (Stmt.While _ _ _ _) _) _ _ _)); first | walk1 | (dsimp only; walk1)))
  rename_i l' _ _ _ F' N'
  refine While_inv (fun n m news => ∃ x y tx ty vs k xs, m (Str.ofString "top") = some (.int x tx) ∧ m (Str.ofString "bottom") = some (.int y ty) ∧ m (Str.ofString "row") = some (.ref l') ∧ news = [(l', W.listOf vs k)] ∧ IntsAre vs.toList xs ∧ 0 ≤ y ∧ y < 100000 ∧ -100000 < x ∧ x < 100000 ∧ n = y.toNat ∧ vs.size + y.toNat ≤ b.toNat ∧ xs ++ quots x y = quots a b) (n₀ := b.toNat) F' N' ?_ ?_ PassesOwn.never
  · exact ⟨a, b, ta, tb, #[], 0, [], rfl, rfl, rfl, rfl, .nil, hb, hb', ha, ha', rfl, by simp, rfl⟩
  · rintro n m₁ news₁ h₁ tk₁ F₁ N₁ ⟨x, y, tx, ty, vs, k, xs, hx, hy, hr, rfl, hvs, hy0, hy1, hx0, hx1, rfl, hsz, hq⟩
    replace F₁ := frPut3 F₁ hx hy hr
    have hsz' : vs.size ≤ sizeLine := by rw [sizeLine_eq]; omega
    k_steps
    · rename Fr _ _ _ _ => F₂; rename News _ _ _ _ => N₂
      have hyy : 0 < y := by assumption
      have e1 : x.fmod y = x % y := Int.fmod_eq_emod_of_nonneg x hy0
      have e2 : x.fdiv y = x / y := Int.fdiv_eq_ediv_of_nonneg x hy0
      have b1 := Int.emod_nonneg x (Int.ne_of_gt hyy)
      have b2 := Int.emod_lt_of_pos x hyy
      refine ⟨rfl, _, _, _, _, (x.fmod y).toNat, rfl, F₂, News.perm N₂ (fun p hp => List.mem_cons_of_mem _ hp), ?_, ⟨y, x.fmod y, _, _, _, _, xs ++ [x.fdiv y], rfl, rfl, rfl, rfl, ?_, by omega, by omega, by omega, by omega, rfl, ?_, ?_⟩⟩
      · omega
      · rw [Array.toList_push]; exact IntsAre.append hvs (.cons _ _ .nil)
      · rw [Array.size_push]; omega
      · rw [← hq, quots_pos hyy, e1, e2]; simp
    · have hyy : ¬ 0 < y := by assumption
      have hq' : IntsAre vs.toList (quots a b) := by rw [← hq, quots_neg hyy, List.append_nil]; exact hvs
      exact hR l' vs k _ _ F₁.keep (N₁.fresh (.head _)) (N₁.get (.head _)) hq'
end Mine
end

section -- Ap
open PySem PySem.W PyProof.Rows
namespace Mine
set_option maxRecDepth 100000
set_option maxHeartbeats 8000000

/-- the figures to the base 16, the highest first -/
def hexd (n : Nat) : List Nat := if h : n = 0 then [] else hexd (n / 16) ++ [n % 16]
termination_by n
decreasing_by omega

theorem hexd_zero : hexd 0 = [] := by rw [hexd]; simp
theorem hexd_pos {n : Nat} (h : n ≠ 0) : hexd n = hexd (n / 16) ++ [n % 16] := by rw [hexd]; simp [h]

def apB (ds : List Nat) : Array UInt8 := (ds.map fun d => UInt8.ofNat (65 + d)).toArray

theorem picked_ap {d : Int} (h0 : 0 ≤ d) (h1 : d < 16) : KBy.picked #[65, 66, 67, 68, 69, 70, 71, 72, 73, 74, 75, 76, 77, 78, 79, 80] (some d) (some (d + 1)) = apB [d.toNat] := by
  have : d = 0 ∨ d = 1 ∨ d = 2 ∨ d = 3 ∨ d = 4 ∨ d = 5 ∨ d = 6 ∨ d = 7 ∨ d = 8 ∨ d = 9 ∨ d = 10 ∨ d = 11 ∨ d = 12 ∨ d = 13 ∨ d = 14 ∨ d = 15 := by omega
  rcases this with h | h | h | h | h | h | h | h | h | h | h | h | h | h | h | h <;> subst h <;> decide +kernel

theorem ap_call {w : World} {mean : ExcName → Option Value} {mg mb : Str → Option Value} {e e₂ : Env} {s : Shared} {R : Result → Shared → Prop} {q : Int} {tq : Tok}
    (T : Top hd.view_39 (looseW hd.view_39 [Str.ofString "_twin_re_1", Str.ofString "_ver_stages"]) mean mg mb s.heap)
    (KX : (hd.heap_39 w.params).In s.heap) (hq : -100000 < q) (hq' : q < 100000)
    (hR : ∀ t h' tk, s.heap.StaysIn h' → R (.ok (.ret (.bytes (apB (hexd q.natAbs)) t))) { s with heap := h', toks := tk }) :
    codeAny (model PySem.Challenge.rw_pe0029_01.row.prog w) ((callerA.deeper e).deeper e₂) (.call (.ref 51) ⟨[.int q tq], []⟩) R s := by
  refine call_plain_ret (binds := [(Str.ofString "num", .int q tq)]) (by k_room) (KX 51 _ rfl) rfl T.nolimit (codeRec_of KX rfl) rfl (by simp only [List.forall_mem_cons]; exact ⟨rfl, by simp⟩) ?_
  w_on; w_top on
  intro h₁ F
  have N : News s.heap s.heap.objs.size h₁ [] := News.nil
  repeat' (first | (k_unfold; (try dsimp only)) | ((fail_if_success (with_reducible show wpAny _ _ (exec (Stmt.While _ _ _ _) _) _ _ _)); first | walk1 | (dsimp only; walk1)))
  rename_i F' N'
  refine While_inv (fun n m news => ∃ x tx ds tv ta, m (Str.ofString "num") = some (.int x tx) ∧ m (Str.ofString "val") = some (.bytes (apB ds) tv) ∧ m (Str.ofString "AP") = some (.bytes #[65, 66, 67, 68, 69, 70, 71, 72, 73, 74, 75, 76, 77, 78, 79, 80] ta) ∧ 0 ≤ x ∧ x < 100000 ∧ n = x.toNat ∧ ds.length + n < 200000 ∧ hexd x.toNat ++ ds = hexd q.natAbs) (n₀ := q.natAbs) F' News.nil ?_ ?_ PassesOwn.never
  · refine ⟨_, _, [], _, _, rfl, rfl, rfl, ?_, ?_, ?_, ?_, ?_⟩
    · split <;> omega
    · split <;> omega
    · split <;> omega
    · simp only [List.length_nil]; omega
    · rw [List.append_nil]; congr 1; split <;> omega
  · rintro n m₁ news₁ h₁ tk₁ F₁ N₁ ⟨x, tx, ds, tv, ta, hx, hv, ha, hx0, hx1, rfl, hl, hd⟩
    replace F₁ := frPut3 F₁ hx hv ha
    have hsz : (apB ds).size = ds.length := by simp [apB]
    k_steps
    · rename Fr _ _ _ _ => F₂; rename News _ _ _ _ => N₂
      refine KBc.slice_K (s := ⟨_, _, _, _, _⟩) F₂ N₂ rfl (by constructor) (by constructor) (by decide) ?_
      intro h₃ t₃ k₃ F₃ N₃ _
      rw [picked_ap (Int.fmod_nonneg_of_pos x (by decide)) (by have := Int.fmod_lt_of_pos x (b := 16) (by decide); omega)]
      dsimp only
      k_steps
      refine KBy.add_bytes (by simp [apB]; omega) ?_
      intro t₄ k₄
      rw [show apB [(x.fmod 16).toNat] ++ apB ds = apB ((x.fmod 16).toNat :: ds) from by simp [apB]]
      dsimp only
      k_steps
      rename Fr _ _ _ _ => F₄; rename News _ _ _ _ => N₄
      have hx2 : x ≠ 0 := by assumption
      have e1 : x.fmod 16 = x % 16 := Int.fmod_eq_emod_of_nonneg x (by decide)
      have e2 : x.fdiv 16 = x / 16 := Int.fdiv_eq_ediv_of_nonneg x (by decide)
      refine ⟨rfl, _, _, _, _, (x.fdiv 16).toNat, rfl, F₄, N₄, by omega, ⟨_, _, _, _, _, rfl, rfl, rfl, by omega, by omega, rfl, ?_, ?_⟩⟩
      · simp only [List.length_cons]; omega
      · rw [← hd, hexd_pos (n := x.toNat) (by omega), List.append_assoc]
        have f1 : (x.fdiv 16).toNat = x.toNat / 16 := by omega
        have f2 : (x.fmod 16).toNat = x.toNat % 16 := by omega
        rw [f1, f2]; rfl
    · have hx2 : x = 0 := by assumption
      subst hx2
      have hds : ds = hexd q.natAbs := by rw [← hd]; simp [hexd_zero]
      rw [← hds] at hR
      exact hR _ _ _ F₁.keep
end Mine
end

section -- Plain
open PySem PySem.W PyProof.Rows
namespace Mine

/-- a number below 100 in decimal figures, as codes -/
def digs (n : Nat) : List Nat := if n < 10 then [48 + n] else [48 + n / 10, 48 + n % 10]
def upL (q : Int) : List Nat := (hexd q.natAbs).map (65 + ·)
def dnL (q : Int) : List Nat := (hexd q.natAbs).map (80 - ·)
def partUp (q : Int) : List Nat := digs (hexd q.natAbs).length ++ upL q
def partDn (q : Int) : List Nat := digs (64 - (hexd q.natAbs).length) ++ dnL q
def isUp (p : Nat) (q : Int) : Bool := p % 2 == 0 && decide (0 ≤ q)
def partsAt (p : Nat) (q : Int) : List (List Nat) :=
  if isUp p q then [partUp q] else (if q < 0 then [[100, 101, 118]] else []) ++ [partDn q]
def partsFrom : Nat → List Int → List (List Nat)
  | _, [] => []
  | p, q :: r => partsAt p q ++ partsFrom (p + 1) r
def lastPart (n : Nat) : List (List Nat) := if n % 2 = 0 then [[112, 108]] else []
def parts (row : List Int) : List (List Nat) := partsFrom 0 row ++ lastPart row.length
def strOf (l : List Nat) : Str := ⟨l.toArray⟩

theorem partsFrom_append (a b : List Int) : ∀ p, partsFrom p (a ++ b) = partsFrom p a ++ partsFrom (p + a.length) b := by
  induction a with
  | nil => intro p; simp [partsFrom]
  | cons q r ih => intro p; simp [partsFrom, ih, Nat.add_assoc, Nat.add_comm 1]

theorem hexd_length_le (n : Nat) (k : Nat) (h : n < 16 ^ k) : (hexd n).length ≤ k := by
  induction k generalizing n with
  | zero => have : n = 0 := by simpa using h
            subst this; simp [hexd_zero]
  | succ k ih =>
    by_cases h0 : n = 0
    · subst h0; simp [hexd_zero]
    · rw [hexd_pos h0, List.length_append]
      have := ih (n / 16) (by rw [Nat.pow_succ] at h; omega)
      simp; omega
theorem hexd_lt {n d : Nat} (h : d ∈ hexd n) : d < 16 := by
  induction n using Nat.strongRecOn with
  | ind n ih =>
    by_cases h0 : n = 0
    · subst h0; simp [hexd_zero] at h
    · rw [hexd_pos h0, List.mem_append] at h
      rcases h with h | h
      · exact ih (n / 16) (by omega) h
      · simp at h; omega
end Mine
end

section -- Plain2
open PySem PySem.W PyProof.Rows
namespace Mine
set_option maxRecDepth 100000

theorem strOf_append (a b : List Nat) : strOf a ++ strOf b = strOf (a ++ b) := by
  show Str.mk (a.toArray ++ b.toArray) = Str.mk (a ++ b).toArray
  simp
theorem strOf_len (a : List Nat) : (strOf a).length = a.length := by simp [strOf, Str.length]

theorem text_digs : ∀ n : Fin 65, Str.ofString (toString ((n.val : Nat) : Int)) = strOf (digs n.val) := by decide +kernel
theorem text_digs' {i : Int} {n : Nat} (hi : i = (n : Int)) (h : n < 65) : Str.ofString (toString i) = strOf (digs n) := by subst hi; exact text_digs ⟨n, h⟩

theorem join_eq (sep : Str) (l : List Str) : Txt.join sep l = Str.join sep l := by
  exact StrLaws.glued_eq_join sep l

theorem join_nil_eq : ∀ l : List (List Nat), Str.join (Str.ofString "") (l.map strOf) = strOf l.flatten
  | [] => rfl
  | [x] => by simp [Str.join]
  | x :: y :: r => by
    have e : (Str.ofString "") = strOf [] := by decide
    rw [List.map_cons, List.map_cons, Str.join]
    · rw [← List.map_cons (f := strOf), join_nil_eq (y :: r), e, strOf_append, strOf_append]; simp
    · simp

/-- the letters of a word -/
theorem ap_codes (ds : List Nat) (h : ∀ d ∈ ds, d < 16) : (apB ds).toList.map (fun c => c.toNat) = ds.map (65 + ·) := by
  simp only [apB]
  rw [List.map_map]
  apply List.map_congr_left
  intro d hd
  have := h d hd
  simp; omega

theorem letters_join (b : Array UInt8) (g : Nat → Nat) : Txt.join (Str.ofString "") (b.toList.map fun c => strOf [g c.toNat]) = strOf (b.toList.map fun c => g c.toNat) := by
  rw [join_eq]
  have e : (b.toList.map fun c => strOf [g c.toNat]) = (b.toList.map fun c => [g c.toNat]).map strOf := by simp
  rw [e, join_nil_eq]
  congr 1
  induction b.toList with
  | nil => rfl
  | cons c r ih => simp [ih]
theorem letters_ok (b : Array UInt8) (g : Nat → Nat) (hb : b.size ≤ 4) (n : Nat) (hn : n ≤ 1) : ((b.toList.map fun c => strOf [g c.toNat]).map (·.length)).sum + (b.toList.map fun c => strOf [g c.toNat]).length * n ≤ 16777216 := by
  have e : ((b.toList.map fun c => strOf [g c.toNat]).map (·.length)) = b.toList.map fun _ => 1 := by
    simp [strOf_len]
  rw [e]
  have h0 : ∀ l : List UInt8, (l.map fun _ => (1 : Nat)).sum = l.length := by
    intro l; induction l with
    | nil => rfl
    | cons c r ih => rw [List.map_cons, List.sum_cons, ih, List.length_cons]; omega
  have h1 : (b.toList.map fun _ => (1 : Nat)).sum = b.size := by rw [h0, Array.length_toList]
  have h2 : (b.toList.map fun c => strOf [g c.toNat]).length = b.size := by simp
  rw [h1, h2]
  have : b.size * n ≤ 4 * 1 := Nat.mul_le_mul hb hn
  omega
end Mine
end

section -- Plain3
open PySem PySem.W PyProof.Rows
namespace Mine

/-- what a release tells: numbers and texts -/
inductive It where
  | n (i : Int)
  | t (l : List Nat)
deriving DecidableEq

inductive ItsAre : List Value → List It → Prop where
  | nil : ItsAre [] []
  | int (i : Int) (k : Tok) {vs : List Value} {xs : List It} : ItsAre vs xs → ItsAre (.int i k :: vs) (.n i :: xs)
  | str (l : List Nat) (k : Tok) {vs : List Value} {xs : List It} : ItsAre vs xs → ItsAre (.str (strOf l) k :: vs) (.t l :: xs)

theorem ItsAre.append : ∀ {vs ws : List Value} {xs ys : List It}, ItsAre vs xs → ItsAre ws ys → ItsAre (vs ++ ws) (xs ++ ys)
  | _, _, _, _, .nil, h => h
  | _, _, _, _, .int i k r, h => .int i k (r.append h)
  | _, _, _, _, .str l k r, h => .str l k (r.append h)
theorem ItsAre.length : ∀ {vs : List Value} {xs : List It}, ItsAre vs xs → vs.length = xs.length
  | _, _, .nil => rfl
  | _, _, .int _ _ r => by simp [r.length]
  | _, _, .str _ _ r => by simp [r.length]

def hl (q : Int) : Nat := (hexd q.natAbs).length
def wordUp (q : Int) : List It := if 0 < hl q then [.n 0, .t (upL q)] else []
def wordDn (q : Int) : List It := if 0 < hl q then [.n 0, .t (dnL q)] else []
def toldAt (p : Nat) (q : Int) : List It :=
  if isUp p q then [.n 100, .n (hl q)] ++ wordUp q else (if q < 0 then [.n 10, .t [100, 101, 118]] else []) ++ [.n 100, .n (64 - hl q)] ++ wordDn q
def toldFrom : Nat → List Int → List It
  | _, [] => []
  | p, q :: r => toldAt p q ++ toldFrom (p + 1) r
def lastTold (n : Nat) : List It := if n % 2 = 0 then [.n 200, .t [112, 108]] else []
def told (row : List Int) : List It := toldFrom 0 row ++ lastTold row.length

theorem toldFrom_append (a b : List Int) : ∀ p, toldFrom p (a ++ b) = toldFrom p a ++ toldFrom (p + a.length) b := by
  induction a with
  | nil => intro p; simp [toldFrom]
  | cons q r ih => intro p; simp [toldFrom, ih, Nat.add_assoc, Nat.add_comm 1]
theorem toldAt_len (p : Nat) (q : Int) : (toldAt p q).length ≤ 6 := by
  unfold toldAt wordUp wordDn
  split
  · split <;> simp
  · split <;> split <;> simp
theorem toldFrom_len (row : List Int) : ∀ p, (toldFrom p row).length ≤ 6 * row.length := by
  induction row with
  | nil => intro p; simp [toldFrom]
  | cons q r ih =>
    intro p
    have := ih (p + 1)
    have := toldAt_len p q
    simp only [toldFrom, List.length_append, List.length_cons]; omega

theorem take_next {row : List Int} {i : Nat} {q : Int} (hin : i < row.length) (hq : row.getD i 0 = q) : row.take (i + 1) = row.take i ++ [q] := by
  rw [List.take_add_one, ← hq]
  simp [List.getD_eq_getElem?_getD, hin]

/-- figures at the places below s, the highest first -/
def pad (s n : Nat) : List Nat := (List.range s).reverse.map fun k => n / 16 ^ k % 16
theorem pad_succ (s n : Nat) : pad (s + 1) n = pad s (n / 16) ++ [n % 16] := by
  unfold pad
  rw [List.range_succ_eq_map, List.reverse_cons, List.map_append, List.map_reverse, ← List.map_reverse]
  congr 1
  · rw [← List.map_reverse, List.map_map]
    apply List.map_congr_left
    intro k _
    show n / 16 ^ (k + 1) % 16 = n / 16 / 16 ^ k % 16
    rw [Nat.pow_succ, Nat.mul_comm, Nat.div_div_eq_div_mul]
  · simp
theorem pad_hexd : ∀ n, pad (hexd n).length n = hexd n := by
  intro n
  induction n using Nat.strongRecOn with
  | ind n ih =>
    by_cases h0 : n = 0
    · subst h0; simp [hexd_zero, pad]
    · rw [hexd_pos h0, List.length_append, List.length_singleton, pad_succ, ih (n / 16) (by omega)]
theorem pad_mirror : ∀ s n, n < 16 ^ s → pad s (16 ^ s - 1 - n) = (pad s n).map (15 - ·) := by
  intro s
  induction s with
  | zero => intro n _; simp [pad]
  | succ s ih =>
    intro n hn
    rw [pad_succ, pad_succ, List.map_append]
    have hp : 16 ^ (s + 1) = 16 * 16 ^ s := by rw [Nat.pow_succ, Nat.mul_comm]
    have hpos : 0 < 16 ^ s := Nat.pow_pos (by decide)
    have h1 : (16 ^ (s + 1) - 1 - n) / 16 = 16 ^ s - 1 - n / 16 := by rw [hp] at hn ⊢; omega
    have h2 : (16 ^ (s + 1) - 1 - n) % 16 = 15 - n % 16 := by rw [hp] at hn ⊢; omega
    rw [h1, h2, ih (n / 16) (by rw [hp] at hn; omega)]
    simp
/-- how many figures a number has -/
theorem hexd_len_of {n k : Nat} (h1 : n < 16 ^ k) (h2 : k = 0 ∨ 16 ^ (k - 1) ≤ n) : (hexd n).length = k := by
  induction k generalizing n with
  | zero => have : n = 0 := by simpa using h1
            subst this; simp [hexd_zero]
  | succ k ih =>
    have h3 : 16 ^ k ≤ n := by simpa using h2
    have hpos : 0 < 16 ^ k := Nat.pow_pos (by decide)
    rw [hexd_pos (by omega), List.length_append, List.length_singleton]
    rw [ih (n := n / 16)]
    · rw [Nat.pow_succ] at h1; omega
    · cases k with
      | zero => left; rfl
      | succ j => right; rw [Nat.pow_succ] at h3; simp; omega
theorem hexd_lt_pow (n : Nat) : n < 16 ^ (hexd n).length := by
  induction n using Nat.strongRecOn with
  | ind n ih =>
    by_cases h0 : n = 0
    · subst h0; simp [hexd_zero]
    · rw [hexd_pos h0, List.length_append, List.length_singleton, Nat.pow_succ]
      have := ih (n / 16) (by omega)
      omega

def headAt (p : Nat) (q : Int) : List It :=
  if isUp p q then [.n 100, .n (hl q)] else (if q < 0 then [.n 10, .t [100, 101, 118]] else []) ++ [.n 100, .n (64 - hl q)]
def lettersAt (p : Nat) (q : Int) : List Nat := if isUp p q then upL q else dnL q
def figsAt (p : Nat) (q : Int) : List Nat := if isUp p q then hexd q.natAbs else (hexd q.natAbs).map (15 - ·)
theorem toldAt_eq (p : Nat) (q : Int) : toldAt p q = headAt p q ++ (if 0 < hl q then [.n 0, .t (lettersAt p q)] else []) := by
  unfold toldAt headAt lettersAt wordUp wordDn
  split <;> rfl
theorem letters_figs (p : Nat) (q : Int) : (figsAt p q).map (65 + ·) = lettersAt p q := by
  unfold figsAt lettersAt upL dnL
  split
  · rfl
  · rw [List.map_map]
    apply List.map_congr_left
    intro d hd
    have := hexd_lt hd
    show 65 + (15 - d) = 80 - d
    omega

theorem single_join {α : Type} (l : List α) (g : α → Nat) : Txt.join (Str.ofString "") (l.map fun k => strOf [g k]) = strOf (l.map g) := by
  rw [join_eq]
  have e : (l.map fun k => strOf [g k]) = (l.map fun k => [g k]).map strOf := by simp
  rw [e, join_nil_eq]
  congr 1
  induction l with
  | nil => rfl
  | cons c r ih => simp [ih]
theorem single_ok {α : Type} (l : List α) (g : α → Nat) (hb : l.length ≤ 4) (n : Nat) (hn : n ≤ 1) : ((l.map fun k => strOf [g k]).map (·.length)).sum + (l.map fun k => strOf [g k]).length * n ≤ 16777216 := by
  have e : ((l.map fun k => strOf [g k]).map (·.length)) = l.map fun _ => 1 := by simp [strOf_len]
  rw [e]
  have h0 : ∀ l : List α, (l.map fun _ => (1 : Nat)).sum = l.length := by
    intro l; induction l with
    | nil => rfl
    | cons c r ih => rw [List.map_cons, List.sum_cons, ih, List.length_cons]; omega
  rw [h0, List.length_map]
  have : l.length * n ≤ 4 * 1 := Nat.mul_le_mul hb hn
  omega
theorem fig_val (r k : Nat) : (65 + ((r : Int).fdiv ((16 : Int) ^ (k : Int).toNat)).fmod 16).toNat = 65 + r / 16 ^ k % 16 := by
  have h1 : (16 : Int) ^ (k : Int).toNat = ((16 ^ k : Nat) : Int) := by simp
  rw [h1, Int.fdiv_eq_ediv_of_nonneg _ (Int.natCast_nonneg _), Int.fmod_eq_emod_of_nonneg _ (by decide), ← Int.natCast_ediv]
  omega
theorem fig_bound (r k : Nat) : 0 ≤ 65 + ((r : Int).fdiv ((16 : Int) ^ (k : Int).toNat)).fmod 16 ∧ 65 + ((r : Int).fdiv ((16 : Int) ^ (k : Int).toNat)).fmod 16 ≤ 1114111 := by
  have := Int.fmod_nonneg_of_pos ((r : Int).fdiv ((16 : Int) ^ (k : Int).toNat)) (b := 16) (by decide)
  have := Int.fmod_lt_of_pos ((r : Int).fdiv ((16 : Int) ^ (k : Int).toNat)) (b := 16) (by decide)
  omega
end Mine
end

section -- Loop
open PySem PySem.W PyProof.Rows
namespace Mine

theorem frStay {h₀ h h' : Heap} {L : Addr} {m : Str → Option Value} (F : Fr h₀ L h m) (k : h.StaysIn h') : Fr h₀ L h' m :=
  ⟨F.ns.keeps k, fun b o e => k _ _ (F.keep b o e), F.above⟩

theorem newsAdd {h₀ h h' : Heap} {L D : Addr} {m : Str → Option Value} {o : Obj} {news : List (Addr × Obj)} (F : Fr h₀ L h m) (N : News h₀ L h news) (k : h.StaysIn h') (hD : h.get? D = none) (ho : h'.get? D = some o) :
    News h₀ L h' ((D, o) :: news) := fun p hp => by
  rcases List.mem_cons.mp hp with rfl | hp
  · refine ⟨ho, ?_, ?_⟩
    · intro q
      obtain ⟨oL, _, _, hL, _⟩ := F.ns
      dsimp only at q
      rw [q, hL] at hD; cases hD
    · cases q : h₀.get? D with
      | none => rfl
      | some x => have := F.keep _ _ q; rw [this] at hD; cases hD
  · exact N.keeps k p hp
theorem newsNe {h₀ h : Heap} {L D : Addr} {news : List (Addr × Obj)} (N : News h₀ L h news) (hD : h.get? D = none) : ∀ p ∈ news, p.1 ≠ D := fun p hp q => by
  have := (N p hp).1; rw [q, hD] at this; cases this

/-- what a turn of a loop leaves: the iterator's objects and the ledger -/
def StepP (h₀ : Heap) (L : Addr) (its : List (Addr × Obj)) (Jn : (Str → Option Value) → List (Addr × Obj) → Prop) (s : Shared) (Q : Flow → Shared → Prop) (f : Flow) (s₂ : Shared) : Prop :=
  match f with
  | .ret v => Q (.ret v) s₂
  | .brk => Q .next s₂
  | _ => ∃ h' tk m' news', s₂ = { s with heap := h', toks := tk } ∧ Fr h₀ L h' m' ∧ News h₀ L h' (its ++ news') ∧ (∀ p ∈ news', ∀ q ∈ its, p.1 ≠ q.1) ∧ Jn m' news'

section
variable {prog : Program} {w : World} {A : Around} {E : Value → Shared → Prop} {s : Shared} {env : Env} {h₀ : Heap} {x : Str} {body : List Stmt} {Q : Flow → Shared → Prop}

/-- a loop whose iterator is one object -/
theorem loop1 {I : Addr} {n : Nat} {P : Nat → Value → Prop} {St : Nat → Heap → Prop} {m₀ : Str → Option Value} {news : List (Addr × Obj)}
    (J : Nat → (Str → Option Value) → List (Addr × Obj) → Prop) (W : Walks prog w A I [I] [I] n P St)
    (hlive : ∀ i h, St i h → ∃ o, h.get? I = some o) (hLI : env.locals ≠ I) (hI : h₀.get? I = none) (hnI : ∀ p ∈ news, p.1 ≠ I)
    (hst : St 0 s.heap) (F : Fr h₀ env.locals s.heap m₀) (N : News h₀ env.locals s.heap news) (hj : J 0 m₀ news)
    (turn : ∀ o i v m₁ news₁ h tk, i < n → P i v → (∀ p ∈ news₁, p.1 ≠ I) → J i m₁ news₁ → Fr h₀ env.locals h (fun y => if y = x then some v else m₁ y) → News h₀ env.locals h ((I, o) :: news₁) →
      wpAny (model prog w) A (execs body env) (StepP h₀ env.locals [(I, o)] (J (i + 1)) s Q) E { s with heap := h, toks := tk })
    (done : ∀ m₁ news₁ h tk, J n m₁ news₁ → Fr h₀ env.locals h m₁ → News h₀ env.locals h news₁ → Q .next { s with heap := h, toks := tk }) :
    LoopAtV prog w A h₀ env x body Q E (.ref I) s := by
  refine ⟨I, [I], [I], n, P, St, m₀, news, J, rfl, W, ?_, ?_, ?_, hst, F, N, hj, ?_, ?_⟩
  · simp [hLI]
  · intro b hb; rw [List.mem_singleton.mp hb]; exact hI
  · intro p hp hb; exact hnI p hp (List.mem_singleton.mp hb)
  · rintro i v m₁ news₁ s₁ own ⟨hh', tk', rfl⟩ hin hP hJ hoff hown hget hall hst' F₁ N₁
    obtain ⟨o, ho⟩ := hlive _ _ hst'
    have hmem : (I, o) ∈ own := hall I (by simp) hI o ho
    have hone : ∀ p ∈ own, p = (I, o) := fun p hp => by
      have h1 := List.mem_singleton.mp (hown p hp)
      have h2 := hget p hp
      rw [h1] at h2
      have h3 : o = p.2 := Option.some.inj (ho.symm.trans h2)
      exact Prod.ext h1 h3.symm
    have N₂ : News h₀ env.locals hh' ((I, o) :: news₁) := fun p hp => by
      rcases List.mem_cons.mp hp with rfl | hp
      · exact N₁ _ (List.mem_append_left _ hmem)
      · exact N₁ _ (List.mem_append_right _ hp)
    refine wpAny_mono (turn o i v m₁ news₁ hh' tk' hin hP (fun p hp q => hoff p hp (by rw [q]; simp)) hJ F₁ N₂) (fun f s₂ p => ?_) fun _ _ e => e
    have fin : (∃ h' tk m' news', s₂ = { s with heap := h', toks := tk } ∧ Fr h₀ env.locals h' m' ∧ News h₀ env.locals h' ([(I, o)] ++ news') ∧ (∀ p ∈ news', ∀ q ∈ [(I, o)], p.1 ≠ q.1) ∧ J (i + 1) m' news') →
        LoopStepU h₀ env.locals [I] own (J (i + 1)) { s with heap := hh', toks := tk' } .next s₂ := by
      rintro ⟨h', tk, m', news', rfl, F', N', ha, hJ'⟩
      refine ⟨rfl, h', tk, m', news', rfl, F', fun p hp => ?_, fun p hp hb => ha p hp (I, o) (by simp) (List.mem_singleton.mp hb), hJ'⟩
      rcases List.mem_append.mp hp with hp | hp
      · rw [hone p hp]; exact N' _ (by simp)
      · exact N' p (List.mem_append_right _ hp)
    cases f with
    | ret v => exact .ret p
    | brk => exact .brk p
    | next => exact .next (fin p)
    | cont => exact .cont (fin p)
  · rintro h' tk m' news' F' N' _ hJ
    exact done m' news' h' tk hJ F' N'

/-- a loop over a list of the ledger, which the turns leave as it is -/
theorem loop2 {l : Addr} {vs : Array Value} {nn : Nat} {m₀ : Str → Option Value} {news : List (Addr × Obj)}
    (J : Nat → (Str → Option Value) → List (Addr × Obj) → Prop) (hh : A.handled = none)
    (hnl : ∀ p ∈ news, p.1 ≠ l)
    (F : Fr h₀ env.locals s.heap m₀) (N : News h₀ env.locals s.heap ((l, W.listOf vs nn) :: news)) (hj : J 0 m₀ news)
    (turn : ∀ I o ol i v m₁ news₁ h tk, vs[i]? = some v → l ≠ I → (∀ p ∈ news₁, p.1 ≠ I) → (∀ p ∈ news₁, p.1 ≠ l) → J i m₁ news₁ → Fr h₀ env.locals h (fun y => if y = x then some v else m₁ y) → News h₀ env.locals h ((I, o) :: (l, ol) :: news₁) →
      wpAny (model prog w) A (execs body env) (StepP h₀ env.locals [(I, o), (l, ol)] (J (i + 1)) s Q) E { s with heap := h, toks := tk })
    (done : ∀ m₁ news₁ h tk, J vs.size m₁ news₁ → Fr h₀ env.locals h m₁ → News h₀ env.locals h news₁ → Q .next { s with heap := h, toks := tk }) :
    wpAny (model prog w) A (pyIter (.ref l)) (fun it s₂ => LoopAtV prog w A h₀ env x body Q E it s₂) E s := by
  have hl := N.get (.head _)
  have hls : s.heap.IsList l vs := ⟨_, hl, rfl, nn, rfl⟩
  refine wpAny_pyIter_list hls ?_
  have hlt : l < s.heap.objs.size := Heap.lt_size hl
  have hne : l ≠ s.heap.objs.size := Nat.ne_of_lt hlt
  have W := Walks.list (prog := prog) (w := w) hh s.heap.objs.size l hne vs
  have hLl : l ≠ env.locals := (N _ (.head _)).2.1
  have hl0 : h₀.get? l = none := (N _ (.head _)).2.2
  have hLI : env.locals ≠ s.heap.objs.size := Nat.ne_of_lt F.ns.lt
  have hI0 : h₀.get? s.heap.objs.size = none := next_is_new F
  -- the ledger is the rest, the list is told beside
  refine ⟨_, [s.heap.objs.size, l], [s.heap.objs.size], vs.size, _, _, m₀, news, fun i m₁ news₁ => (∀ p ∈ news₁, p.1 ≠ l) ∧ J i m₁ news₁, rfl, W, ?_, ?_, ?_, ⟨⟨_, Heap.get?_push_size _ rfl, rfl, rfl⟩, hls.at fun o e => Heap.get?_push_of_some _ e⟩, F.push _, (fun p hp => ⟨Heap.get?_push_of_some _ (N p (.tail _ hp)).1, (N p (.tail _ hp)).2⟩), ⟨hnl, hj⟩, ?_, ?_⟩
  · simp [hLI, Ne.symm hLl]
  · intro b hb; rw [List.mem_singleton.mp hb]; exact hI0
  · intro p hp hb
    exact absurd (Heap.lt_size (N p (.tail _ hp)).1) (by rw [List.mem_singleton.mp hb]; exact Nat.lt_irrefl _)
  · rintro i v m₁ news₁ s₁ own ⟨hh', tk', rfl⟩ hin hP ⟨hnl', hJ⟩ hoff hown hget hall hst' F₁ N₁
    obtain ⟨⟨o, ho, _⟩, hl'⟩ := hst'
    have hmem : (s.heap.objs.size, o) ∈ own := hall _ (by simp) hI0 o ho
    obtain ⟨ol, hol, _⟩ := hl'
    have hmeml : (l, ol) ∈ own := hall _ (by simp) hl0 ol hol
    have hone : ∀ p ∈ own, p = (s.heap.objs.size, o) ∨ p = (l, ol) := fun p hp => by
      have h2 := hget p hp
      rcases List.mem_cons.mp (hown p hp) with h1 | h1
      · left; rw [h1] at h2
        exact Prod.ext h1 (Option.some.inj (ho.symm.trans h2)).symm
      · right
        have h1 := List.mem_singleton.mp h1
        rw [h1] at h2
        exact Prod.ext h1 (Option.some.inj (hol.symm.trans h2)).symm
    have N₂ : News h₀ env.locals hh' ((s.heap.objs.size, o) :: (l, ol) :: news₁) := fun p hp => by
      rcases List.mem_cons.mp hp with rfl | hp
      · exact N₁ _ (List.mem_append_left _ hmem)
      · rcases List.mem_cons.mp hp with rfl | hp
        · exact N₁ _ (List.mem_append_left _ hmeml)
        · exact N₁ _ (List.mem_append_right _ hp)
    refine wpAny_mono (turn _ o ol i v m₁ news₁ hh' tk' hP hne (fun p hp q => hoff p hp (by rw [q]; simp)) hnl' hJ F₁ N₂) (fun f s₂ p => ?_) fun _ _ e => e
    have fin : (∃ h' tk m' news', s₂ = { s with heap := h', toks := tk } ∧ Fr h₀ env.locals h' m' ∧ News h₀ env.locals h' ([(s.heap.objs.size, o), (l, ol)] ++ news') ∧ (∀ p ∈ news', ∀ q ∈ [(s.heap.objs.size, o), (l, ol)], p.1 ≠ q.1) ∧ J (i + 1) m' news') →
        LoopStepU h₀ env.locals [s.heap.objs.size] own (fun m₁ news₁ => (∀ p ∈ news₁, p.1 ≠ l) ∧ J (i + 1) m₁ news₁) { s with heap := hh', toks := tk' } .next s₂ := by
      rintro ⟨h', tk, m', news', rfl, F', N', ha, hJ'⟩
      refine ⟨rfl, h', tk, m', news', rfl, F', fun p hp => ?_, fun p hp hb => ha p hp (s.heap.objs.size, o) (by simp) (List.mem_singleton.mp hb), fun p hp => ha p hp (l, ol) (by simp), hJ'⟩
      rcases List.mem_append.mp hp with hp | hp
      · rcases hone p hp with rfl | rfl
        · exact N' _ (by simp)
        · exact N' _ (by simp)
      · exact N' p (List.mem_append_right _ hp)
    cases f with
    | ret v => exact .ret p
    | brk => exact .brk p
    | next => exact .next (fin p)
    | cont => exact .cont (fin p)
  · rintro h' tk m' news' F' N' _ ⟨_, hJ⟩
    exact done m' news' h' tk hJ F' N'

/-- a loop over range(n) -/
theorem loopR {r : Addr} {n : Nat} {t₀ u₀ v₀ : Tok} {m₀ : Str → Option Value} {news : List (Addr × Obj)}
    (J : Nat → (Str → Option Value) → List (Addr × Obj) → Prop) (hh : A.handled = none)
    (hr : IsRange s.heap r 0 n 1 t₀ u₀ v₀) (hn : n < 1000000)
    (F : Fr h₀ env.locals s.heap m₀) (N : News h₀ env.locals s.heap news) (hj : J 0 m₀ news)
    (turn : ∀ I o i t m₁ news₁ h tk, i < n → (∀ p ∈ news₁, p.1 ≠ I) → J i m₁ news₁ → Fr h₀ env.locals h (fun y => if y = x then some (.int (i : Int) t) else m₁ y) → News h₀ env.locals h ((I, o) :: news₁) →
      wpAny (model prog w) A (execs body env) (StepP h₀ env.locals [(I, o)] (J (i + 1)) s Q) E { s with heap := h, toks := tk })
    (done : ∀ m₁ news₁ h tk, J n m₁ news₁ → Fr h₀ env.locals h m₁ → News h₀ env.locals h news₁ → Q .next { s with heap := h, toks := tk }) :
    wpAny (model prog w) A (pyIter (.ref r)) (fun it s₂ => LoopAtV prog w A h₀ env x body Q E it s₂) E s := by
  have hsize : Builtin.Range.rangeSize 0 (n : Int) 1 = (n : Int) := by
    rw [rangeSize_nat]; omega
  refine wpAny_pyIter_range hr (small_one (by decide) (by decide) (by omega) (by omega)) ?_
  have W := Walks.range (prog := prog) (w := w) hh s.heap.objs.size 0 1 n
  rw [hsize]
  refine loop1 (s := ⟨_, _, _, _, _⟩) (m₀ := m₀) (news := news) J W (fun i h st => ⟨_, st⟩) (Nat.ne_of_lt F.ns.lt) (next_is_new F) (fun p hp => Nat.ne_of_lt (Heap.lt_size (N p hp).1)) ?_ (F.push _) (fun p hp => ⟨Heap.get?_push_of_some _ (N p hp).1, (N p hp).2⟩) hj ?_ ?_
  · show IsRangeIter _ _ _ _ _
    simpa using Heap.get?_push_size _ rfl
  · rintro o i v m₁ news₁ h tk hi ⟨t, rfl⟩ hne hJ F₁ N₁
    have := turn s.heap.objs.size o i t m₁ news₁ h tk hi hne hJ (by simpa using F₁) N₁
    exact this
  · intro m₁ news₁ h tk hJ F₁ N₁
    exact done m₁ news₁ h tk hJ F₁ N₁
end
end Mine
end

section -- Comp
open PySem PySem.W PyProof.Rows
namespace Mine

theorem strsAppend : ∀ {vs ws : List Value} {xs ys : List Str}, StrsAre vs xs → StrsAre ws ys → StrsAre (vs ++ ws) (xs ++ ys)
  | _, _, _, _, .nil, h => h
  | _, _, _, _, .cons y t r, h => .cons y t (strsAppend r h)
theorem strs_of_paired {F : Value → Value → Prop} {f : Value → Str} (hF : ∀ v y, F v y → ∃ t, y = .str (f v) t) : ∀ {vs ys : List Value}, Paired F vs ys → StrsAre ys (vs.map f)
  | _, _, .nil => .nil
  | _, _, .cons h r => by
    obtain ⟨t, rfl⟩ := hF _ _ h
    exact .cons _ _ (strs_of_paired hF r)

section
variable {prog : Program} {w : World} {A : Around} {E : Value → Shared → Prop} {s : Shared} {env : Env}
def codeOf : Value → Nat
  | .int i _ => i.toNat
  | _ => 0

theorem listComp_bytes {elt iter : Expr} {x : Str} {px pos : Pos} {scope : Scope} {b : Array UInt8} {tb : Tok} {Q : Value → Shared → Prop} (g : Nat → List Nat)
    (hh : A.handled = none) (hfree : ∀ y ∈ scope.names, y.2 ≠ .free) (hcell : ∀ y ∈ scope.names, y.2 ≠ .cell) (hkind : scope.kind = .function)
    (hnames : ∀ y ∈ scope.names, y.2 = .local → scope.names.lookup y.1 = some .local) (hx : scope.names.lookup x = some .local) (hsz : b.size ≤ sizeLine)
    (hiter : ∀ (Q' : Value → Shared → Prop), Q' (.bytes b tb) s → wpAny (model prog w) A (eval iter env) Q' E s)
    (helt : ∀ C (c : UInt8) u s₃ m₃ E' (Q' : Value → Shared → Prop), c ∈ b.toList → s₃.heap.Ns C m₃ → m₃ x = some (.int (c.toNat : Int) u) → (∀ a o, s.heap.get? a = some o → s₃.heap.get? a = some o) →
      (∀ t' tk, Q' (.str (strOf (g c.toNat)) t') { s₃ with toks := tk }) → wpAny (model prog w) A (eval elt (compEnv scope C env)) Q' E' s₃)
    (h : ∀ D ys h' tk, s.heap.get? D = none → h'.PlainList D ys → StrsAre ys.toList (b.toList.map fun c => strOf (g c.toNat)) → s.heap.StaysIn h' → Q (.ref D) { s with heap := h', toks := tk })
    (hs : ∀ x, foldedSetIterable iter env x = pure x := by intro _; rfl) :
    wpAny (model prog w) A (eval (.ListComp elt [⟨.Name x px, iter, [], 0⟩] scope pos) env) Q E s := by
  refine wpAny_ListComp_walk (fun _ => true) (fun v y => ∃ t, y = .str (strOf (g (codeOf v))) t) hfree hcell hkind hnames hx ?_ hs
  refine hiter _ ?_
  refine KBw.pyIter_bytes ?_
  refine ⟨_, _, _, _, _, _, rfl, KBw.walks hh _ b tb, hsz, ⟨_, Heap.get?_push_size _ rfl, rfl, rfl⟩, ?_, ?_, ?_⟩
  · intro a ha; rw [List.mem_singleton.mp ha]; simp [Heap.size_push]
  · constructor
    · intro C i v s₃ m₃ E' _ _ _ _ _
      exact wpAny_pure ⟨rfl, s₃.heap, s₃.toks, rfl, fun _ _ e => e⟩
    · rintro C i v s₃ m₃ E' ⟨c, u, hc, rfl⟩ _ hns hm hk _
      refine helt C c u s₃ m₃ E' _ ?_ hns hm ?_ ?_
      · exact Array.mem_toList_iff.mpr (Array.mem_of_getElem? hc)
      · intro a o e
        refine hk a o ?_ (Heap.get?_push_of_some _ e)
        intro q; rw [List.mem_singleton.mp q] at e; exact absurd (Heap.lt_size e) (Nat.lt_irrefl _)
      · intro t' tk
        exact ⟨⟨t', by simp [codeOf]⟩, s₃.heap, tk, rfl, fun _ _ e => e⟩
  · intro D h' tk ys vs hD hl hpl hlen hP hF hk
    have hD' : s.heap.get? D = none := by
      cases q : s.heap.get? D with
      | none => rfl
      | some o => have := Heap.get?_push_of_some { cls := .type "bytes_iterator", data := .fields #[.bytes b tb, .int 0 0] } q; rw [this] at hD; cases hD
    refine h D ys h' tk hD' hpl ?_ ?_
    · have := strs_of_paired (f := fun v => strOf (g (codeOf v))) (fun v y h => h) hF
      rw [show vs.filter (fun _ => true) = vs from by simp] at this
      have e : vs.map (fun v => strOf (g (codeOf v))) = b.toList.map (fun c => strOf (g c.toNat)) := by
        apply List.ext_getElem?
        intro j
        rw [List.getElem?_map, List.getElem?_map]
        cases hj : vs[j]? with
        | none =>
          have h1 := List.getElem?_eq_none_iff.mp hj
          rw [List.getElem?_eq_none (by simp; omega)]; rfl
        | some v =>
          obtain ⟨c, u, hc, rfl⟩ := hP j v hj
          rw [Array.getElem?_toList, hc]; simp [codeOf]
      rw [← e]; exact this
    · intro a o q
      refine hk a o ?_ (Heap.get?_push_of_some _ q)
      intro z; rw [List.mem_singleton.mp z] at q; exact absurd (Heap.lt_size q) (Nat.lt_irrefl _)
end
end Mine
end

section -- Comp2
open PySem PySem.W PyProof.Rows
namespace Mine
section
variable {prog : Program} {w : World} {A : Around} {E : Value → Shared → Prop} {s : Shared} {env : Env}

theorem listComp_down {elt iter : Expr} {x : Str} {px pos : Pos} {scope : Scope} {cl : List (Str × Addr)} {n : Nat} {Q : Value → Shared → Prop} (g : Nat → List Nat)
    (hh : A.handled = none) (hclos : closureFor scope env = pure cl) (hcell : ∀ y ∈ scope.names, y.2 ≠ .cell) (hkind : scope.kind = .function)
    (hnames : ∀ y ∈ scope.names, y.2 = .local → scope.names.lookup y.1 = some .local) (hx : scope.names.lookup x = some .local) (hsz : n ≤ 1000)
    (hiter : ∀ (Q' : Value → Shared → Prop), (∀ r h' tk t u v, IsRange h' r ((n : Int) - 1) (-1) (-1) t u v → s.heap.StaysIn h' → Q' (.ref r) { s with heap := h', toks := tk }) → wpAny (model prog w) A (eval iter env) Q' E s)
    (helt : ∀ C (k : Nat) u s₃ m₃ E' (Q' : Value → Shared → Prop), k < n → s₃.heap.Ns C m₃ → m₃ x = some (.int (k : Int) u) → (∀ a o, s.heap.get? a = some o → s₃.heap.get? a = some o) →
      (∀ t' tk, Q' (.str (strOf (g k)) t') { s₃ with toks := tk }) → wpAny (model prog w) A (eval elt (compEnvC scope cl C env)) Q' E' s₃)
    (h : ∀ D ys h' tk, s.heap.get? D = none → h'.PlainList D ys → StrsAre ys.toList ((List.range n).reverse.map fun k => strOf (g k)) → s.heap.StaysIn h' → Q (.ref D) { s with heap := h', toks := tk })
    (hs : ∀ x, foldedSetIterable iter env x = pure x := by intro _; rfl) :
    wpAny (model prog w) A (eval (.ListComp elt [⟨.Name x px, iter, [], 0⟩] scope pos) env) Q E s := by
  refine wpAny_ListComp_free (fun _ => true) (fun v y => ∃ t, y = .str (strOf (g (codeOf v))) t) hclos hcell hkind hnames hx ?_ hs
  refine hiter _ ?_
  intro r hr tkr t₁ u₁ v₁ hR hstR
  refine wpAny_pyIter_range hR (small_down (by omega) (by omega) (by decide) (by decide)) ?_
  rw [rangeSize_downNat, show ((n : Int) - 1 - -1).toNat = n from by omega]
  have hlive : ∀ a o, s.heap.get? a = some o → (hr.push { cls := .type "range_iterator", data := .fields #[rawInt ((n : Int) - 1), rawInt (n : Int), rawInt (-1)] }).get? a = some o := fun a o e => Heap.get?_push_of_some _ (hstR a o e)
  have hnw : ∀ a o, s.heap.get? a = some o → a ∉ [hr.objs.size] := fun a o e q => by
    rw [List.mem_singleton.mp q] at e
    exact absurd (Heap.lt_size (hstR _ _ e)) (Nat.lt_irrefl _)
  refine ⟨_, _, _, n, _, _, rfl, (Walks.range hh hr.objs.size ((n : Int) - 1) (-1) n).bound, by rw [sizeLine_eq]; omega, ?_, ?_, ?_, ?_⟩
  · show IsRangeIter _ _ _ _ _
    simpa using Heap.get?_push_size _ rfl
  · intro a ha; rw [List.mem_singleton.mp ha]; simp [Heap.size_push]
  · constructor
    · intro C i v s₃ m₃ E' _ _ _ _ _ _
      exact wpAny_pure ⟨rfl, s₃.heap, s₃.toks, rfl, fun _ _ e => e⟩
    · rintro C i v s₃ m₃ E' _ ⟨hin, u, rfl⟩ _ hns hm hk _
      have e1 : ((n : Int) - 1 + (i : Int) * -1) = ((n - 1 - i : Nat) : Int) := by omega
      rw [e1] at hm ⊢
      refine helt C (n - 1 - i) u s₃ m₃ E' _ (by omega) hns hm (fun a o e => hk a o (hnw a o e) (hlive a o e)) ?_
      intro t' tk
      exact ⟨⟨t', by simp [codeOf]⟩, s₃.heap, tk, rfl, fun _ _ e => e⟩
  · intro D h' tk ys vs hD hl hpl hlen hP hF hk
    have hD' : s.heap.get? D = none := by
      cases q : s.heap.get? D with
      | none => rfl
      | some o => have := hlive _ _ q; rw [this] at hD; cases hD
    refine h D ys h' tk hD' hpl ?_ ?_
    · have := strs_of_paired (f := fun v => strOf (g (codeOf v))) (fun v y h => h) hF
      rw [show vs.filter (fun _ => true) = vs from by simp] at this
      have e : vs.map (fun v => strOf (g (codeOf v))) = (List.range n).reverse.map (fun k => strOf (g k)) := by
        apply List.ext_getElem?
        intro j
        rw [List.getElem?_map, List.getElem?_map]
        cases hj : vs[j]? with
        | none =>
          have h1 := List.getElem?_eq_none_iff.mp hj
          rw [List.getElem?_eq_none (by simp; omega)]; rfl
        | some v =>
          obtain ⟨_, u, rfl⟩ := hP j v hj
          have hjn : j < n := by rw [← hlen]; exact (List.getElem?_eq_some_iff.mp hj).1
          rw [List.getElem?_eq_getElem (by simp; omega)]
          simp only [Option.map_some, codeOf, List.getElem_reverse, List.getElem_range, List.length_range]
          congr 3; omega
      rw [← e]; exact this
    · intro a o q
      exact hk a o (hnw a o q) (hlive a o q)
end
end Mine
end

section -- Rel
open PySem PySem.W PyProof.Rows
namespace Mine
set_option maxRecDepth 100000
set_option maxHeartbeats 8000000

theorem ap_mem {ds : List Nat} (h : ∀ d ∈ ds, d < 16) {c : UInt8} (hc : c ∈ (apB ds).toList) : 65 ≤ c.toNat ∧ c.toNat ≤ 80 := by
  have e := ap_codes ds h
  have : c.toNat ∈ (apB ds).toList.map (fun c => c.toNat) := List.mem_map_of_mem hc
  rw [e] at this
  obtain ⟨d, hd, q⟩ := List.mem_map.mp this
  have := h d hd
  omega

theorem parts_len (row : List Int) : ∀ p, (partsFrom p row).length ≤ 2 * row.length := by
  induction row with
  | nil => intro p; simp [partsFrom]
  | cons q r ih =>
    intro p
    have := ih (p + 1)
    simp only [partsFrom, List.length_append, List.length_cons]
    have h2 : (partsAt p q).length ≤ 2 := by
      unfold partsAt; split
      · simp
      · split <;> simp
    omega
theorem digs_len (n : Nat) : (digs n).length ≤ 2 := by unfold digs; split <;> simp
theorem parts_mem (row : List Int) (hrow : ∀ q ∈ row, -65536 < q ∧ q < 65536) : ∀ p, ∀ x ∈ partsFrom p row, x.length ≤ 6 := by
  induction row with
  | nil => intro p x hx; simp [partsFrom] at hx
  | cons q r ih =>
    intro p x hx
    simp only [partsFrom, List.mem_append] at hx
    rcases hx with hx | hx
    · have hq := hrow q (by simp)
      have h4 := hexd_length_le q.natAbs 4 (by omega)
      have d1 := digs_len (hexd q.natAbs).length
      have d2 := digs_len (64 - (hexd q.natAbs).length)
      unfold partsAt at hx
      split at hx
      · simp only [List.mem_singleton] at hx
        subst hx; simp only [partUp, upL, List.length_append, List.length_map]; omega
      · simp only [List.mem_append, List.mem_singleton] at hx
        rcases hx with hx | hx
        · split at hx
          · simp only [List.mem_singleton] at hx; subst hx; simp
          · simp at hx
        · subst hx; simp only [partDn, dnL, List.length_append, List.length_map]; omega
    · exact ih (fun q hq => hrow q (by simp [hq])) (p + 1) x hx
theorem sum_le_of {l : List Nat} {k : Nat} (h : ∀ x ∈ l, x ≤ k) : l.sum ≤ k * l.length := by
  induction l with
  | nil => simp
  | cons a r ih =>
    have := ih (fun x hx => h x (by simp [hx]))
    have := h a (by simp)
    rw [List.sum_cons, List.length_cons, Nat.mul_add]; omega
theorem join_ok {l : List (List Nat)} (h : ∀ x ∈ l, x.length ≤ 6) (hl : l.length ≤ 300000) (n : Nat) (hn : n = 1) : ((l.map strOf).map (·.length)).sum + (l.map strOf).length * n ≤ 16777216 := by
  have e : ((l.map strOf).map (·.length)) = l.map List.length := by simp [strOf_len]
  rw [e]
  have := sum_le_of (l := l.map List.length) (k := 6) (by intro x hx; obtain ⟨y, hy, rfl⟩ := List.mem_map.mp hx; exact h y hy)
  rw [List.length_map] at this
  rw [List.length_map, hn]; omega

theorem rel_call {w : World} {mean : ExcName → Option Value} {mg mb : Str → Option Value} {e : Env} {s : Shared} {R : Result → Shared → Prop} {lq : Addr} {vs : List Value} {row : List Int} {mk : Str} {tm : Tok}
    (T : Top hd.view_39 (looseW hd.view_39 [Str.ofString "_twin_re_1", Str.ofString "_ver_stages"]) mean mg mb s.heap)
    (KX : (hd.heap_39 w.params).In s.heap) (hl : s.heap.IsList lq vs.toArray) (hi : IntsAre vs row) (hrow : ∀ q ∈ row, -65536 < q ∧ q < 65536) (hlen : row.length < 100000) (hmk : mk.length = 1)
    (hR : ∀ t h' tk, s.heap.StaysIn h' → R (.ok (.ret (.str (Txt.join mk ((parts row).map strOf)) t))) { s with heap := h', toks := tk }) :
    codeAny (model PySem.Challenge.rw_pe0029_01.row.prog w) (callerA.deeper e) (.call (.ref 63) ⟨[.ref lq, .str mk tm], []⟩) R s := by
  refine call_plain_ret (binds := [(Str.ofString "row", .ref lq), (Str.ofString "mark", .str mk tm)]) (by k_room) (KX 63 _ rfl) rfl T.nolimit (codeRec_of KX rfl) rfl (by simp only [List.forall_mem_cons]; exact ⟨rfl, rfl, by simp⟩) ?_
  revert KX; k_fill; intro KX
  w_on; w_top on
  intro h₁ F
  have N : News s.heap s.heap.objs.size h₁ [] := News.nil
  repeat' (first | (k_unfold; (try dsimp only)) | ((fail_if_success (with_reducible show wpAny _ _ (exec (Stmt.For _ _ _ _ _) _) _ _ _)); first | walk1 | (dsimp only; walk1)))
  rename_i lp _ _ _ F' N'
  k_fold
  refine For_invV s.heap rfl rfl ?_ (hE := PassesOwn.never)
  repeat' (first | (k_unfold; (try dsimp only)) | ((fail_if_success (with_reducible show wpAny _ _ (pyIter _) _ _ _)); first | walk1 | (dsimp only; walk1)))
  rename IsRange _ _ _ _ _ _ _ _ => hr; rename Fr _ _ _ _ => F₂; rename News _ _ _ _ => N₂; rename IntsAre _ _ => hi
  refine loopR (n := row.length) (fun i m news => ∃ ws k, ws.size ≤ 2 * i ∧ m (Str.ofString "row") = some (.ref lq) ∧ m (Str.ofString "mark") = some (.str mk tm) ∧ m (Str.ofString "parts") = some (.ref lp) ∧ news = [(lp, W.listOf ws k)] ∧ StrsAre ws.toList ((partsFrom 0 (row.take i)).map strOf)) rfl hr (by omega) F₂ N₂ ?_ ?_ ?_
  · exact ⟨#[], 0, by simp, rfl, rfl, rfl, rfl, by simpa [partsFrom] using StrsAre.nil⟩
  · rintro I o i t m₁ news₁ h tk hin hne ⟨ws, k, hwz, hm1, hm2, hm3, rfl, hws⟩ F₃ N₃
    replace F₃ := frUnder3 F₃ hm1 hm2 hm3
    repeat' (first | (k_unfold; (try dsimp only)) | ((fail_if_success (with_reducible show wpAny _ _ (call (Value.ref _) _ _) _ _ _)); first | walk1 | (dsimp only; walk1)))
    have hq0 : ∃ q, row.getD ((i : Int)).toNat 0 = q := ⟨_, rfl⟩
    obtain ⟨q, hq⟩ := hq0
    have htk := take_next hin hq
    have hi2 : (i : Int).fmod 2 = (i : Int) % 2 := Int.fmod_eq_emod_of_nonneg _ (by decide)
    have hqr := hrow q (by rw [← hq]; simp [List.getD_eq_getElem?_getD, hin])
    rw [hq]
    refine wpAny_call (ap_call (T.keeps F₃.keep) (KX.keeps F₃.keep) (by omega) (by omega) ?_)
    intro t₄ h₄ tk₄ k₄
    have F₄ := frStay F₃ k₄
    have N₄ := N₃.keeps k₄
    clear F₃ N₃ F₂ N₂ hr
    have hneI := hne (lp, W.listOf ws k) (by simp)
    dsimp only at hneI
    have hb0 : ∃ b : Array UInt8, apB (hexd q.natAbs) = b := ⟨_, rfl⟩
    obtain ⟨b, hb⟩ := hb0
    have hbm : ∀ c ∈ b.toList, 65 ≤ c.toNat ∧ c.toNat ≤ 80 := fun c hc => ap_mem (ds := hexd q.natAbs) (fun d => hexd_lt) (by rw [hb]; exact hc)
    have hbs : b.size ≤ 4 := by rw [← hb]; simp only [apB, List.size_toArray, List.length_map]; exact hexd_length_le _ 4 (by omega)
    have hvalU : strOf (digs b.size) ++ strOf (b.toList.map fun c => c.toNat) = strOf (partUp q) := by
      rw [strOf_append, ← hb, ap_codes _ (fun d => hexd_lt)]
      simp [partUp, upL, apB]
    have hvalD : strOf (digs (64 - b.size)) ++ strOf (b.toList.map fun c => 145 - c.toNat) = strOf (partDn q) := by
      have e1 : (b.toList.map fun c => 145 - c.toNat) = (b.toList.map fun c => c.toNat).map (145 - ·) := by simp
      rw [strOf_append, e1, ← hb, ap_codes _ (fun d => hexd_lt)]
      simp only [partDn, dnL, apB, List.size_toArray, List.length_map, List.map_map]
      congr 2
      apply List.map_congr_left
      intro d _
      show 145 - (65 + d) = 80 - d
      omega
    have hws' : ws.size ≤ sizeLine := by rw [sizeLine_eq]; omega
    rw [hb]
    dsimp only
    repeat' (first | (k_unfold; (try dsimp only)) | ((fail_if_success (with_reducible show wpAny _ _ (call (Value.builtin "list.append") _ _) _ _ _)); (fail_if_success (with_reducible show wpAny _ _ (eval (Expr.ListComp _ _ _ _) _) _ _ _)); first | walk1 | (dsimp only; walk1)))
    · rename Fr _ _ _ _ => F₅; rename News _ _ _ _ => N₅
      refine listComp_bytes (b := b) (tb := t₄) (fun c => [c]) rfl (by decide) (by decide) rfl (by decide) rfl (by rw [sizeLine_eq]; omega) ?_ ?_ ?_
      · intro Q' hQ'
        exact ld F₅ rfl hQ'
      · intro C c u₆ s₆ m₆ E' Q' hc hns hm hk hQ'
        have hc' := hbm c hc
        refine Call_ ?_
        refine Calls.Name_function_global rfl rfl (Calls.loadGlobal_builtin (T.g.keeps fun b o e => hk b o (F₅.keep b o e)) (mg_none_of KX T.g rfl) (T.b.keeps fun b o e => hk b o (F₅.keep b o e)) ((T.builtins _ (by decide)).trans rfl) ?_)
        refine callWith_builtin1 (args_cons ?_)
        refine wpAny_Name (wpAny_loadName_local rfl rfl hns hm ?_) (by decide)
        refine args_nil ?_
        refine chr_of_range (by omega) (by omega) ?_
        exact hQ' _ _
      · intro D ys h₆ tk₆ hD hpl hys hst
        obtain ⟨nD, hoD⟩ := hpl
        have F₆ := frStay F₅ hst
        have N₆ := newsAdd F₅ N₅ hst hD hoD
        have hDne := newsNe N₅ hD
        have hD2 : D ≠ lp := fun q => hDne (lp, _) (.tail _ (.head _)) q.symm
        dsimp only
        repeat' (first | (k_unfold; (try dsimp only)) | ((fail_if_success (with_reducible show wpAny _ _ (call _ _ _) _ _ _)); first | walk1 | (dsimp only; walk1)))
        refine join_list ⟨_, hoD, rfl, nD, rfl⟩ hys (letters_ok b (fun c => c) hbs _ (by decide)) ?_
        intro t₇ k₇
        rw [letters_join b (fun c => c)]
        dsimp only
        rw [text_digs' (n := b.size) rfl (by omega)]
        refine PyProof.Rows.add_str ?_ (by rw [strOf_len, strOf_len, sizeLine_eq]; simp [digs]; split <;> simp <;> omega)
        intro t₈ k₈
        rw [hvalU]
        dsimp only
        k_steps
        refine append_K F₆ N₆ (.tail hD2 (.tail (Ne.symm hneI) (.head (by simp)))) ?_ (by (try simp only [Array.size_push]); rw [sizeLine_eq]; omega)
        intro h₉ F₉ N₉
        dsimp only
        k_steps
        refine ⟨_, _, _, [(lp, _)], rfl, F₉, News.perm N₉ (fun p hp => List.mem_cons_of_mem _ hp), (by simpa using hneI), ⟨_, _, ?_, rfl, rfl, rfl, rfl, ?_⟩⟩
        · simp only [Array.size_push]; omega
        · rw [htk, partsFrom_append, List.length_take, Nat.min_eq_left (Nat.le_of_lt hin)]
          have hup : isUp i q = true := by simp only [isUp, Bool.and_eq_true, beq_iff_eq, decide_eq_true_eq]; omega
          simp only [partsFrom, Nat.zero_add, partsAt, hup, if_true, List.append_nil, List.map_append, List.map_cons, List.map_nil, Array.toList_push]
          exact strsAppend hws (.cons _ _ .nil)
    · rename Fr _ _ _ _ => F₀; rename News _ _ _ _ => N₀
      refine append_K F₀ N₀ (.tail (Ne.symm hneI) (.head (by simp))) ?_ hws'
      intro h₀' F₀' N₀'
      clear F₀ N₀
      dsimp only
      repeat' (first | (k_unfold; (try dsimp only)) | ((fail_if_success (with_reducible show wpAny _ _ (eval (Expr.ListComp _ _ _ _) _) _ _ _)); first | walk1 | (dsimp only; walk1)))
      rename Fr _ _ _ _ => F₅; rename News _ _ _ _ => N₅
      refine listComp_bytes (b := b) (tb := t₄) (fun c => [145 - c]) rfl (by decide) (by decide) rfl (by decide) rfl (by rw [sizeLine_eq]; omega) ?_ ?_ ?_
      · intro Q' hQ'
        exact ld F₅ rfl hQ'
      · intro C c u₆ s₆ m₆ E' Q' hc hns hm hk hQ'
        have hc' := hbm c hc
        refine Call_ ?_
        refine Calls.Name_function_global rfl rfl (Calls.loadGlobal_builtin (T.g.keeps fun b o e => hk b o (F₅.keep b o e)) (mg_none_of KX T.g rfl) (T.b.keeps fun b o e => hk b o (F₅.keep b o e)) ((T.builtins _ (by decide)).trans rfl) ?_)
        refine callWith_builtin1 (args_cons ?_)
        walk1; walk1
        refine wpAny_Name (wpAny_loadName_local rfl rfl hns hm ?_) (by decide)
        refine PyProof.Rows.sub_int ?_
        refine args_nil ?_
        refine chr_of_range (by omega) (by omega) ?_
        rw [show ((145 : Int) - (c.toNat : Int)).toNat = 145 - c.toNat from by omega]
        exact hQ' _ _
      · intro D ys h₆ tk₆ hD hpl hys hst
        obtain ⟨nD, hoD⟩ := hpl
        have F₆ := frStay F₅ hst
        have N₆ := newsAdd F₅ N₅ hst hD hoD
        have hDne := newsNe N₅ hD
        have hD2 : D ≠ lp := fun q => hDne (lp, _) (.tail _ (.head _)) q.symm
        dsimp only
        repeat' (first | (k_unfold; (try dsimp only)) | ((fail_if_success (with_reducible show wpAny _ _ (call _ _ _) _ _ _)); first | walk1 | (dsimp only; walk1)))
        refine join_list ⟨_, hoD, rfl, nD, rfl⟩ hys (letters_ok b (fun c => 145 - c) hbs _ (by decide)) ?_
        intro t₇ k₇
        rw [letters_join b (fun c => 145 - c)]
        dsimp only
        rw [text_digs' (n := 64 - b.size) (by omega) (by omega)]
        refine PyProof.Rows.add_str ?_ (by rw [strOf_len, strOf_len, sizeLine_eq]; simp [digs]; split <;> simp <;> omega)
        intro t₈ k₈
        rw [hvalD]
        dsimp only
        k_steps
        refine append_K F₆ N₆ (.tail hD2 (.tail (Ne.symm hneI) (.head (by simp)))) ?_ (by (try simp only [Array.size_push]); rw [sizeLine_eq]; omega)
        intro h₉ F₉ N₉
        dsimp only
        k_steps
        refine ⟨_, _, _, [(lp, _)], rfl, F₉, News.perm N₉ (fun p hp => List.mem_cons_of_mem _ hp), (by simpa using hneI), ⟨_, _, ?_, rfl, rfl, rfl, rfl, ?_⟩⟩
        · simp only [Array.size_push]; omega
        · rw [htk, partsFrom_append, List.length_take, Nat.min_eq_left (Nat.le_of_lt hin)]
          have hup : isUp i q = false := by simp only [isUp, Bool.and_eq_false_iff, beq_eq_false_iff_ne, decide_eq_false_iff_not]; omega
          have hqn : q < 0 := by omega
          simp only [partsFrom, Nat.zero_add, partsAt, hup, hqn, if_true, Bool.false_eq_true, if_false, List.append_nil, List.map_append, List.map_cons, List.map_nil, Array.toList_push, List.append_assoc]
          exact strsAppend hws (.cons _ _ (.cons _ _ .nil))
    · rename Fr _ _ _ _ => F₀; rename News _ _ _ _ => N₀
      refine append_K F₀ N₀ (.tail (Ne.symm hneI) (.head (by simp))) ?_ hws'
      intro h₀' F₀' N₀'
      clear F₀ N₀
      dsimp only
      repeat' (first | (k_unfold; (try dsimp only)) | ((fail_if_success (with_reducible show wpAny _ _ (eval (Expr.ListComp _ _ _ _) _) _ _ _)); first | walk1 | (dsimp only; walk1)))
      rename Fr _ _ _ _ => F₅; rename News _ _ _ _ => N₅
      refine listComp_bytes (b := b) (tb := t₄) (fun c => [145 - c]) rfl (by decide) (by decide) rfl (by decide) rfl (by rw [sizeLine_eq]; omega) ?_ ?_ ?_
      · intro Q' hQ'
        exact ld F₅ rfl hQ'
      · intro C c u₆ s₆ m₆ E' Q' hc hns hm hk hQ'
        have hc' := hbm c hc
        refine Call_ ?_
        refine Calls.Name_function_global rfl rfl (Calls.loadGlobal_builtin (T.g.keeps fun b o e => hk b o (F₅.keep b o e)) (mg_none_of KX T.g rfl) (T.b.keeps fun b o e => hk b o (F₅.keep b o e)) ((T.builtins _ (by decide)).trans rfl) ?_)
        refine callWith_builtin1 (args_cons ?_)
        walk1; walk1
        refine wpAny_Name (wpAny_loadName_local rfl rfl hns hm ?_) (by decide)
        refine PyProof.Rows.sub_int ?_
        refine args_nil ?_
        refine chr_of_range (by omega) (by omega) ?_
        rw [show ((145 : Int) - (c.toNat : Int)).toNat = 145 - c.toNat from by omega]
        exact hQ' _ _
      · intro D ys h₆ tk₆ hD hpl hys hst
        obtain ⟨nD, hoD⟩ := hpl
        have F₆ := frStay F₅ hst
        have N₆ := newsAdd F₅ N₅ hst hD hoD
        have hDne := newsNe N₅ hD
        have hD2 : D ≠ lp := fun q => hDne (lp, _) (.tail _ (.head _)) q.symm
        dsimp only
        repeat' (first | (k_unfold; (try dsimp only)) | ((fail_if_success (with_reducible show wpAny _ _ (call _ _ _) _ _ _)); first | walk1 | (dsimp only; walk1)))
        refine join_list ⟨_, hoD, rfl, nD, rfl⟩ hys (letters_ok b (fun c => 145 - c) hbs _ (by decide)) ?_
        intro t₇ k₇
        rw [letters_join b (fun c => 145 - c)]
        dsimp only
        rw [text_digs' (n := 64 - b.size) (by omega) (by omega)]
        refine PyProof.Rows.add_str ?_ (by rw [strOf_len, strOf_len, sizeLine_eq]; simp [digs]; split <;> simp <;> omega)
        intro t₈ k₈
        rw [hvalD]
        dsimp only
        k_steps
        refine append_K F₆ N₆ (.tail hD2 (.tail (Ne.symm hneI) (.head (by simp)))) ?_ (by (try simp only [Array.size_push]); rw [sizeLine_eq]; omega)
        intro h₉ F₉ N₉
        dsimp only
        k_steps
        refine ⟨_, _, _, [(lp, _)], rfl, F₉, News.perm N₉ (fun p hp => List.mem_cons_of_mem _ hp), (by simpa using hneI), ⟨_, _, ?_, rfl, rfl, rfl, rfl, ?_⟩⟩
        · simp only [Array.size_push]; omega
        · rw [htk, partsFrom_append, List.length_take, Nat.min_eq_left (Nat.le_of_lt hin)]
          have hup : isUp i q = false := by simp only [isUp, Bool.and_eq_false_iff, beq_eq_false_iff_ne, decide_eq_false_iff_not]; omega
          have hqn : q < 0 := by omega
          simp only [partsFrom, Nat.zero_add, partsAt, hup, hqn, if_true, Bool.false_eq_true, if_false, List.append_nil, List.map_append, List.map_cons, List.map_nil, Array.toList_push, List.append_assoc]
          exact strsAppend hws (.cons _ _ (.cons _ _ .nil))
    · rename Fr _ _ _ _ => F₅; rename News _ _ _ _ => N₅
      refine listComp_bytes (b := b) (tb := t₄) (fun c => [145 - c]) rfl (by decide) (by decide) rfl (by decide) rfl (by rw [sizeLine_eq]; omega) ?_ ?_ ?_
      · intro Q' hQ'
        exact ld F₅ rfl hQ'
      · intro C c u₆ s₆ m₆ E' Q' hc hns hm hk hQ'
        have hc' := hbm c hc
        refine Call_ ?_
        refine Calls.Name_function_global rfl rfl (Calls.loadGlobal_builtin (T.g.keeps fun b o e => hk b o (F₅.keep b o e)) (mg_none_of KX T.g rfl) (T.b.keeps fun b o e => hk b o (F₅.keep b o e)) ((T.builtins _ (by decide)).trans rfl) ?_)
        refine callWith_builtin1 (args_cons ?_)
        walk1; walk1
        refine wpAny_Name (wpAny_loadName_local rfl rfl hns hm ?_) (by decide)
        refine PyProof.Rows.sub_int ?_
        refine args_nil ?_
        refine chr_of_range (by omega) (by omega) ?_
        rw [show ((145 : Int) - (c.toNat : Int)).toNat = 145 - c.toNat from by omega]
        exact hQ' _ _
      · intro D ys h₆ tk₆ hD hpl hys hst
        obtain ⟨nD, hoD⟩ := hpl
        have F₆ := frStay F₅ hst
        have N₆ := newsAdd F₅ N₅ hst hD hoD
        have hDne := newsNe N₅ hD
        have hD2 : D ≠ lp := fun q => hDne (lp, _) (.tail _ (.head _)) q.symm
        dsimp only
        repeat' (first | (k_unfold; (try dsimp only)) | ((fail_if_success (with_reducible show wpAny _ _ (call _ _ _) _ _ _)); first | walk1 | (dsimp only; walk1)))
        refine join_list ⟨_, hoD, rfl, nD, rfl⟩ hys (letters_ok b (fun c => 145 - c) hbs _ (by decide)) ?_
        intro t₇ k₇
        rw [letters_join b (fun c => 145 - c)]
        dsimp only
        rw [text_digs' (n := 64 - b.size) (by omega) (by omega)]
        refine PyProof.Rows.add_str ?_ (by rw [strOf_len, strOf_len, sizeLine_eq]; simp [digs]; split <;> simp <;> omega)
        intro t₈ k₈
        rw [hvalD]
        dsimp only
        k_steps
        refine append_K F₆ N₆ (.tail hD2 (.tail (Ne.symm hneI) (.head (by simp)))) ?_ (by (try simp only [Array.size_push]); rw [sizeLine_eq]; omega)
        intro h₉ F₉ N₉
        dsimp only
        k_steps
        refine ⟨_, _, _, [(lp, _)], rfl, F₉, News.perm N₉ (fun p hp => List.mem_cons_of_mem _ hp), (by simpa using hneI), ⟨_, _, ?_, rfl, rfl, rfl, rfl, ?_⟩⟩
        · simp only [Array.size_push]; omega
        · rw [htk, partsFrom_append, List.length_take, Nat.min_eq_left (Nat.le_of_lt hin)]
          have hup : isUp i q = false := by simp only [isUp, Bool.and_eq_false_iff, beq_eq_false_iff_ne, decide_eq_false_iff_not]; omega
          have hqn : ¬ q < 0 := by omega
          simp only [partsFrom, Nat.zero_add, partsAt, hup, hqn, Bool.false_eq_true, if_false, List.nil_append, List.append_nil, List.map_append, List.map_cons, List.map_nil, Array.toList_push]
          exact strsAppend hws (.cons _ _ .nil)
  · rintro m₁ news₁ h tk ⟨ws, k, hwz, hm1, hm2, hm3, rfl, hws⟩ F₃ N₃
    replace F₃ := frPut3 F₃ hm1 hm2 hm3
    rw [List.take_length] at hws
    have hws' : ws.size ≤ sizeLine := by rw [sizeLine_eq]; omega
    have hp1 := parts_mem row hrow 0
    have hp2 := parts_len row 0
    have hi2 : (row.length : Int).fmod 2 = (row.length : Int) % 2 := Int.fmod_eq_emod_of_nonneg _ (by decide)
    k_steps
    · rename Fr _ _ _ _ => F₄; rename News _ _ _ _ => N₄
      have hev : row.length % 2 = 0 := by omega
      have hpp : parts row = partsFrom 0 row ++ [[112, 108]] := by unfold parts lastPart; rw [if_pos hev]
      rw [hpp] at hR
      refine join_list (ys := (partsFrom 0 row ++ [[112, 108]]).map strOf) ⟨_, N₄.get (.head _), rfl, _, rfl⟩ ?_ (join_ok ?_ (by simp only [List.length_append, List.length_cons, List.length_nil]; omega) _ hmk) ?_
      · rw [Array.toList_push, List.map_append]; exact strsAppend hws (.cons _ _ .nil)
      · intro x hx
        rcases List.mem_append.mp hx with hx | hx
        · exact hp1 x hx
        · rw [List.mem_singleton.mp hx]; decide
      · intro t₅ k₅
        exact hR _ _ _ F₄.keep
    · have hod : ¬ row.length % 2 = 0 := by omega
      have hpp : parts row = partsFrom 0 row := by unfold parts lastPart; rw [if_neg hod, List.append_nil]
      rw [hpp] at hR
      refine join_list (ys := (partsFrom 0 row).map strOf) ⟨_, N₃.get (.head _), rfl, _, rfl⟩ hws (join_ok hp1 (by omega) _ hmk) ?_
      intro t₅ k₅
      exact hR _ _ _ F₃.keep
end Mine
end

section -- Ext
open PySem PySem.W PyProof.Rows
namespace Mine
section
variable {prog : Program} {w : World} {A : Around} {E : Value → Shared → Prop} {s : Shared} {h₀ : Heap} {L D b : Addr} {m : Str → Option Value} {news news' : List (Addr × Obj)} {its its2 : Array Value} {n n2 : Nat}

theorem notLong {k : Nat} (h : k ≤ 1000000) : Builtin.List.listTooLong k = false := by
  unfold Builtin.List.listTooLong
  rw [decide_eq_false_iff_not]
  have := sizeLine_eq
  omega

theorem extL {Q : Value → Shared → Prop} (F : Fr h₀ L s.heap m) (N : News h₀ L s.heap news) (hb : (b, W.listOf its2 n2) ∈ news) (hne : 0 < its2.size)
    (U : Upd D (W.listOf its n) (W.listOf (its ++ its2) (n + 1)) news news') (hz : its.size + its2.size ≤ 1000000)
    (h : ∀ h', Fr h₀ L h' m → News h₀ L h' news' → Q .none { s with heap := h' }) : wpAny (model prog w) A (call (.builtin "list.extend") [.ref D, .ref b]) Q E s := by
  refine kl_extend (l := (its ++ its2).toList) F N hb (by simp) (by simp; intro q; rw [q] at hne; simp at hne) U ?_ ?_ ?_ h
  · rw [notLong (by omega), Bool.and_false]; exact Bool.false_ne_true
  · rw [Array.length_toList, sizeLine_eq]; omega
  · rw [sizeLine_eq]; omega
theorem extT {Q : Value → Shared → Prop} (F : Fr h₀ L s.heap m) (N : News h₀ L s.heap news) (hb : (b, ({ cls := .type "tuple", data := .seq its2 n2 } : Obj)) ∈ news) (hne : 0 < its2.size)
    (U : Upd D (W.listOf its n) (W.listOf (its ++ its2) (n + 1)) news news') (hz : its.size + its2.size ≤ 1000000)
    (h : ∀ h', Fr h₀ L h' m → News h₀ L h' news' → Q .none { s with heap := h' }) : wpAny (model prog w) A (call (.builtin "list.extend") [.ref D, .ref b]) Q E s := by
  refine kup_extend (l := (its ++ its2).toList) F N hb (by simp) (by simp; intro q; rw [q] at hne; simp at hne) U ?_ ?_ ?_ h
  · rw [notLong (by omega), Bool.and_false]; exact Bool.false_ne_true
  · rw [Array.length_toList, sizeLine_eq]; omega
  · rw [sizeLine_eq]; omega
end
end Mine
end

section -- Told
open PySem PySem.W PyProof.Rows
namespace Mine
set_option maxRecDepth 100000
set_option maxHeartbeats 8000000

theorem told_call {w : World} {mean : ExcName → Option Value} {mg mb : Str → Option Value} {e : Env} {s : Shared} {R : Result → Shared → Prop} {lq : Addr} {vs : List Value} {row : List Int}
    (T : Top hd.view_39 (looseW hd.view_39 [Str.ofString "_twin_re_1", Str.ofString "_ver_stages"]) mean mg mb s.heap)
    (KX : (hd.heap_39 w.params).In s.heap) (hlq : s.heap.IsList lq vs.toArray) (hi : IntsAre vs row) (hrow : ∀ q ∈ row, -65536 < q ∧ q < 65536) (hlen : row.length < 100000)
    (hR : ∀ l us n h' tk, s.heap.StaysIn h' → s.heap.get? l = none → h'.get? l = some (W.listOf us n) → ItsAre us.toList (told row) → R (.ok (.ret (.ref l))) { s with heap := h', toks := tk }) :
    codeAny (model PySem.Challenge.rw_pe0029_01.row.prog w) (callerA.deeper e) (.call (.ref 68) ⟨[.ref lq], []⟩) R s := by
  refine call_cellsN_ret (binds := [(Str.ofString "row", .ref lq)]) (by k_room) (KX 68 _ rfl) rfl T.nolimit (codeRec_of KX rfl) rfl (by simp only [List.forall_mem_cons]; exact ⟨.inl rfl, by simp⟩) (by decide) ?_
  revert KX; k_fill; intro KX
  w_on; w_top on
  intro h₁ tk cells F N Y
  obtain ⟨oc, rfl, hoc⟩ := CellsAre.one (n := Str.ofString "rest") (c := s.heap.objs.size + 1) Y
  replace hoc : oc.data = .cell none := hoc
  replace F : Fr s.heap s.heap.objs.size h₁ (fun y => if y = Str.ofString "row" then some (.ref lq) else none) := F
  clear Y
  repeat' (first | (k_unfold; (try dsimp only)) | ((fail_if_success (with_reducible show wpAny _ _ (exec (Stmt.For _ _ _ _ _) _) _ _ _)); first | walk1 | (dsimp only; walk1)))
  rename_i lt _ hlt _ F' N'
  k_fold
  refine For_invV s.heap rfl rfl ?_ (hE := PassesOwn.never)
  repeat' (first | (k_unfold; (try dsimp only)) | ((fail_if_success (with_reducible show wpAny _ _ (pyIter _) _ _ _)); first | walk1 | (dsimp only; walk1)))
  rename IsRange _ _ _ _ _ _ _ _ => hr; rename Fr _ _ _ _ => F₂; rename News _ _ _ _ => N₂; rename IntsAre _ _ => hi
  refine loopR (n := row.length) (fun i m news => ∃ us k oc cv, m (Str.ofString "row") = some (.ref lq) ∧ m (Str.ofString "told") = some (.ref lt) ∧ oc.data = .cell cv ∧ news = [(lt, W.listOf us k), (s.heap.objs.size + 1, oc)] ∧ ItsAre us.toList (toldFrom 0 (row.take i))) rfl hr (by omega) F₂ N₂ ?_ ?_ ?_
  · exact ⟨#[], 0, oc, none, rfl, rfl, hoc, rfl, by simpa [toldFrom] using ItsAre.nil⟩
  · clear F₂ N₂ hoc
    rintro I o i t m₁ news₁ h tk hin hne ⟨us, k, oc, cv, hm1, hm2, hoc, rfl, hus⟩ F₃ N₃
    replace F₃ := frUnder2 F₃ hm1 hm2
    have n1 := neN (hne (lt, W.listOf us k) (.head _))
    have n2 := neN (hne (s.heap.objs.size + 1, oc) (.tail _ (.head _)))
    dsimp only at n1 n2
    have hq0 : ∃ q, row.getD ((i : Int)).toNat 0 = q := ⟨_, rfl⟩
    obtain ⟨q, hq⟩ := hq0
    have hqr := hrow q (by rw [← hq]; simp [List.getD_eq_getElem?_getD, hin])
    repeat' (first | (k_unfold; (try dsimp only)) | ((fail_if_success (with_reducible show wpAny _ _ (exec (Stmt.While _ _ _ _) _) _ _ _)); first | walk1 | (dsimp only; walk1)))
    rename (Obj.data _ = _) => hoc2; rename Fr _ _ _ _ => F₄; rename News _ _ _ _ => N₄
    rw [hq] at hoc2
    have hab : (if q < 0 then -q else q) = (q.natAbs : Int) := by split <;> omega
    rw [hab] at hoc2
    have hn0 : ∃ n, q.natAbs = n := ⟨_, rfl⟩
    obtain ⟨n, hn⟩ := hn0
    rw [hn] at hoc2
    have hn4 : n < 65536 := by omega
    rename_i oc2 _
    refine While_inv (fun j m news => ∃ (z : Nat) (ts : Tok), m (Str.ofString "size") = some (.int (z : Int) ts) ∧ m (Str.ofString "place") = some (.int (i : Int) t) ∧ m (Str.ofString "told") = some (.ref lt) ∧ m (Str.ofString "row") = some (.ref lq) ∧ news = [(I, o), (lt, W.listOf us k), (s.heap.objs.size + 1, oc2)] ∧ z ≤ 4 ∧ (z = 0 ∨ 16 ^ (z - 1) ≤ n) ∧ j = 5 - z) (n₀ := 5) F₄ N₄ ?_ ?_ PassesOwn.never
    · exact ⟨0, _, rfl, rfl, rfl, rfl, rfl, by omega, .inl rfl, rfl⟩
    · clear F₄ N₄
      rintro j m₂ news₂ h₂ tk₂ F₅ N₅ ⟨z, ts, hs1, hs2, hs3, hs4, rfl, hz, hz2, rfl⟩
      replace F₅ := frPut4 F₅ hs1 hs2 hs3 hs4
      repeat' (first | (k_unfold; (try dsimp only)) | ((fail_if_success (with_reducible show wpAny _ _ (exec (Stmt.If _ _ _ _) _) _ _ _)); first | walk1 | (dsimp only; walk1)))
      · rename Fr _ _ _ _ => F₆; rename News _ _ _ _ => N₆
        rename ((16 : Int) ^ _ ≤ _) => hle
        have hle' : 16 ^ z ≤ n := by
          have h1 : ((16 ^ z : Nat) : Int) ≤ (n : Int) := by simpa using hle
          omega
        have hz4 : z ≠ 4 := by
          intro q; subst q
          have : (16 : Nat) ^ 4 = 65536 := by decide
          omega
        exact ⟨rfl, _, _, _, _, 5 - (z + 1), rfl, F₆, N₆, by omega, ⟨z + 1, _, rfl, rfl, rfl, rfl, rfl, by omega, .inr (by simpa using hle'), rfl⟩⟩
      · rename (¬ (16 : Int) ^ _ ≤ _) => hgt
        have hgt' : n < 16 ^ z := by
          have h1 : ¬ ((16 ^ z : Nat) : Int) ≤ (n : Int) := by simpa using hgt
          omega
        have hzl : (hexd n).length = z := hexd_len_of hgt' hz2
        have hun : us.size ≤ 6 * i := by
          have h1 := toldFrom_len (row.take i) 0
          have h2 := hus.length
          rw [List.length_take] at h1
          simp only [Array.length_toList] at h2
          omega
        have hun' : us.size ≤ sizeLine := by rw [sizeLine_eq]; omega
        clear hgt hz2
        have hi2 : (i : Int).fmod 2 = (i : Int) % 2 := Int.fmod_eq_emod_of_nonneg _ (by decide)
        have hp4 : 16 ^ z ≤ 65536 := by
          have h1 : 16 ^ z ≤ 16 ^ 4 := Nat.pow_le_pow_right (by decide) hz
          have h2 : (16 : Nat) ^ 4 = 65536 := by decide
          omega
        have hcast : ((16 : Int) ^ (z : Int).toNat - 1 - (n : Int)) = ((16 ^ z - 1 - n : Nat) : Int) := by
          rw [Int.toNat_natCast]
          have h1 : (16 : Int) ^ z = ((16 ^ z : Nat) : Int) := by simp
          rw [h1]; omega
        have hhl : hl q = z := by unfold hl; rw [hn]; exact hzl
        refine wpAny_mono (Q := fun (f : Flow) s' => f = .next ∧ ∃ (h' : Heap) (tk : Nat) (us' : Array Value) (k' : Nat) (oc3 : Obj) (r : Nat) (u : Tok), s' = { s with heap := h', toks := tk } ∧
          Fr s.heap s.heap.objs.size h' (fun y => if y = Str.ofString "row" then some (.ref lq) else if y = Str.ofString "told" then some (.ref lt) else if y = Str.ofString "place" then some (.int (i : Int) t) else if y = Str.ofString "size" then some (.int (z : Int) ts) else m₂ y) ∧
          News s.heap s.heap.objs.size h' [(I, o), (lt, W.listOf us' k'), (s.heap.objs.size + 1, oc3)] ∧ oc3.data = .cell (some (.int (r : Int) u)) ∧ us'.size ≤ us.size + 4 ∧
          ItsAre us'.toList (toldFrom 0 (row.take i) ++ headAt i q) ∧ r < 65536 ∧ pad z r = figsAt i q) (E := fun _ _ => False) ?_ ?_ (fun _ _ x => x.elim)
        · repeat' (first | (k_unfold; (try dsimp only)) | ((fail_if_success (with_reducible show wpAny _ _ (call (Value.builtin "list.extend") _ _) _ _ _)); first | walk1 | (dsimp only; walk1)))
          · rename Fr _ _ _ _ => Fa; rename News _ _ _ _ => Na
            refine extL Fa Na (.head _) (Nat.succ_pos _) (by k_upd) (by simp; omega) ?_
            intro ha Fb Nb
            clear Fa Na
            dsimp only at Nb ⊢
            repeat' (first | (k_unfold; (try dsimp only)) | ((fail_if_success (with_reducible show wpAny _ _ (call (Value.builtin "list.extend") _ _) _ _ _)); first | walk1 | (dsimp only; walk1)))
            rename Fr _ _ _ _ => Fa; rename News _ _ _ _ => Na
            refine extL Fa Na (.head _) (Nat.succ_pos _) (by k_upd) (by simp; omega) ?_
            intro hb Fb Nb
            clear Fa Na
            dsimp only at Nb ⊢
            repeat' (first | (k_unfold; (try dsimp only)) | ((fail_if_success (with_reducible show (_ ∧ _))); first | walk1 | (dsimp only; walk1)))
            (try dsimp only)
            rename (Obj.data _ = _) => hoc3; rename Fr _ _ _ _ => Fc; rename News _ _ _ _ => Nc
            rw [hcast] at hoc3
            refine ⟨rfl, _, _, _, _, _, 16 ^ z - 1 - n, _, rfl, Fc, News.perm Nc (fun p hp => .tail _ (.tail _ hp)), hoc3, ?_, ?_, by omega, ?_⟩
            · simp
            · have hup : isUp i q = false := by simp only [isUp, Bool.and_eq_false_iff, beq_eq_false_iff_ne, decide_eq_false_iff_not]; omega
              have hqn : q < 0 := by omega
              simp only [headAt, hup, hqn, hhl, Bool.false_eq_true, if_true, if_false, List.nil_append]
              simp only [Array.toList_append]
              rw [List.append_assoc]
              exact hus.append (.int _ _ (.str _ _ (.int _ _ (.int _ _ .nil))))
            · have hup : isUp i q = false := by simp only [isUp, Bool.and_eq_false_iff, beq_eq_false_iff_ne, decide_eq_false_iff_not]; omega
              unfold figsAt
              rw [hup, pad_mirror z n hgt', ← hzl, pad_hexd, hn]; rfl
          · rename Fr _ _ _ _ => Fa; rename News _ _ _ _ => Na
            refine extL Fa Na (.head _) (Nat.succ_pos _) (by k_upd) (by simp; omega) ?_
            intro ha Fb Nb
            clear Fa Na
            dsimp only at Nb ⊢
            repeat' (first | (k_unfold; (try dsimp only)) | ((fail_if_success (with_reducible show (_ ∧ _))); first | walk1 | (dsimp only; walk1)))
            (try dsimp only)
            rename (Obj.data _ = _) => hoc3; rename Fr _ _ _ _ => Fc; rename News _ _ _ _ => Nc
            rw [hcast] at hoc3
            refine ⟨rfl, _, _, _, _, _, 16 ^ z - 1 - n, _, rfl, Fc, News.perm Nc (fun p hp => .tail _ hp), hoc3, ?_, ?_, by omega, ?_⟩
            · simp
            · have hup : isUp i q = false := by simp only [isUp, Bool.and_eq_false_iff, beq_eq_false_iff_ne, decide_eq_false_iff_not]; omega
              have hqn : ¬ q < 0 := by omega
              simp only [headAt, hup, hqn, hhl, Bool.false_eq_true, if_true, if_false, List.nil_append]
              simp only [Array.toList_append]
              exact hus.append (.int _ _ (.int _ _ .nil))
            · have hup : isUp i q = false := by simp only [isUp, Bool.and_eq_false_iff, beq_eq_false_iff_ne, decide_eq_false_iff_not]; omega
              unfold figsAt
              rw [hup, pad_mirror z n hgt', ← hzl, pad_hexd, hn]; rfl
          · rename Fr _ _ _ _ => Fa; rename News _ _ _ _ => Na
            refine extL Fa Na (.head _) (Nat.succ_pos _) (by k_upd) (by simp; omega) ?_
            intro ha Fb Nb
            clear Fa Na
            dsimp only at Nb ⊢
            repeat' (first | (k_unfold; (try dsimp only)) | ((fail_if_success (with_reducible show wpAny _ _ (call (Value.builtin "list.extend") _ _) _ _ _)); first | walk1 | (dsimp only; walk1)))
            rename Fr _ _ _ _ => Fa; rename News _ _ _ _ => Na
            refine extL Fa Na (.head _) (Nat.succ_pos _) (by k_upd) (by simp; omega) ?_
            intro hb Fb Nb
            clear Fa Na
            dsimp only at Nb ⊢
            repeat' (first | (k_unfold; (try dsimp only)) | ((fail_if_success (with_reducible show (_ ∧ _))); first | walk1 | (dsimp only; walk1)))
            (try dsimp only)
            rename (Obj.data _ = _) => hoc3; rename Fr _ _ _ _ => Fc; rename News _ _ _ _ => Nc
            rw [hcast] at hoc3
            refine ⟨rfl, _, _, _, _, _, 16 ^ z - 1 - n, _, rfl, Fc, News.perm Nc (fun p hp => .tail _ (.tail _ hp)), hoc3, ?_, ?_, by omega, ?_⟩
            · simp
            · have hup : isUp i q = false := by simp only [isUp, Bool.and_eq_false_iff, beq_eq_false_iff_ne, decide_eq_false_iff_not]; omega
              have hqn : q < 0 := by omega
              simp only [headAt, hup, hqn, hhl, Bool.false_eq_true, if_true, if_false, List.nil_append]
              simp only [Array.toList_append]
              rw [List.append_assoc]
              exact hus.append (.int _ _ (.str _ _ (.int _ _ (.int _ _ .nil))))
            · have hup : isUp i q = false := by simp only [isUp, Bool.and_eq_false_iff, beq_eq_false_iff_ne, decide_eq_false_iff_not]; omega
              unfold figsAt
              rw [hup, pad_mirror z n hgt', ← hzl, pad_hexd, hn]; rfl
          · rename Fr _ _ _ _ => Fa; rename News _ _ _ _ => Na
            refine extL Fa Na (.head _) (Nat.succ_pos _) (by k_upd) (by simp; omega) ?_
            intro ha Fb Nb
            clear Fa Na
            dsimp only at Nb ⊢
            repeat' (first | (k_unfold; (try dsimp only)) | ((fail_if_success (with_reducible show (_ ∧ _))); first | walk1 | (dsimp only; walk1)))
            (try dsimp only)
            rename Fr _ _ _ _ => Fc; rename News _ _ _ _ => Nc
            have hup : isUp i q = true := by simp only [isUp, Bool.and_eq_true, beq_iff_eq, decide_eq_true_eq]; omega
            refine ⟨rfl, _, _, _, _, _, n, _, rfl, Fc, News.perm Nc (fun p hp => .tail _ hp), hoc2, ?_, ?_, by omega, ?_⟩
            · simp
            · simp only [headAt, hup, hhl, if_true, Array.toList_append]
              exact hus.append (.int _ _ (.int _ _ .nil))
            · unfold figsAt
              rw [hup, ← hzl, pad_hexd, hn]; rfl
        · clear F₅ N₅
          rintro f s' ⟨rfl, h₆, tk₆, us', k', oc3, r, u, rfl, F₆, N₆, hoc3, husz, hits, hr16, hpad⟩
          have htk := take_next hin hq
          have hun2 : us'.size ≤ 700000 := by omega
          repeat' (first | (k_unfold; (try dsimp only)) | ((fail_if_success (with_reducible show wpAny _ _ (eval (Expr.ListComp _ _ _ _) _) _ _ _)); (fail_if_success (with_reducible show (_ ∧ _))); first | walk1 | (dsimp only; walk1)))
          · have hz0 : 0 < z := by omega
            have hbs : z ≤ 4 := hz
            refine listComp_down (n := z) (cl := [(Str.ofString "rest", s.heap.objs.size + 1)]) (fun k => [65 + r / 16 ^ k % 16]) rfl rfl (by decide) rfl (by decide) rfl (by omega) ?_ ?_ ?_
            · intro Q' hQ'
              repeat' (first | (k_unfold; (try dsimp only)) | (first | walk1 | (dsimp only; walk1)))
              rename IsRange _ _ _ _ _ _ _ _ => hrg
              refine hQ' _ _ _ _ _ _ hrg ?_
              assumption
            · intro C k₇ u₇ s₇ m₇ E' Q' hk₇ hns hm hk hQ'
              have hcell : s₇.heap.IsCell (s.heap.objs.size + 1) (some (.int (r : Int) u)) := ⟨oc3, hk _ _ (N₆.get (.tail _ (.tail _ (.head _)))), hoc3⟩
              have hpw : (16 : Int) ^ (k₇ : Int).toNat = ((16 ^ k₇ : Nat) : Int) := by simp
              have hpos : 0 < 16 ^ k₇ := Nat.pow_pos (by decide)
              have hpb : 16 ^ k₇ ≤ 65536 := by
                have h1 : 16 ^ k₇ ≤ 16 ^ 4 := Nat.pow_le_pow_right (by decide) (by omega)
                have h2 : (16 : Nat) ^ 4 = 65536 := by decide
                omega
              refine Call_ ?_
              refine Calls.Name_function_global rfl rfl (Calls.loadGlobal_builtin (T.g.keeps fun b o e => hk b o (F₆.keep b o e)) (mg_none_of KX T.g rfl) (T.b.keeps fun b o e => hk b o (F₆.keep b o e)) ((T.builtins _ (by decide)).trans rfl) ?_)
              refine callWith_builtin1 (args_cons ?_)
              walk1; walk1; walk1; walk1
              refine ldCellK rfl hcell ?_
              walk1; walk1
              refine ldVarK hns hm ?_
              refine pow_int_small (by omega) (by omega) (by decide) ?_
              refine floordiv_int (by rw [hpw]; omega) ?_ (Or.inl (PyProof.noPylong_small (by rw [hpw]; omega)))
              walk1
              refine mod_int' (by decide) ?_
              refine PyProof.Rows.add_int ?_
              refine args_nil ?_
              have hfb := fig_bound r k₇
              refine chr_of_range hfb.1 hfb.2 ?_
              rw [fig_val]
              exact hQ' _ _
            · intro D ys h₇ tk₇ hD hpl hys hst
              obtain ⟨nD, hoD⟩ := hpl
              have F₇ := frStay F₆ hst
              have N₇ := newsAdd F₆ N₆ hst hD hoD
              have hDne := newsNe N₆ hD
              have d1 := neN (hDne (I, o) (.head _))
              have d2 := neN (hDne (lt, W.listOf us' k') (.tail _ (.head _)))
              have d3 := neN (hDne (s.heap.objs.size + 1, oc3) (.tail _ (.tail _ (.head _))))
              dsimp only at d1 d2 d3
              clear F₆ N₆
              dsimp only
              repeat' (first | (k_unfold; (try dsimp only)) | ((fail_if_success (with_reducible show wpAny _ _ (call (Value.builtin "str.join") _ _) _ _ _)); first | walk1 | (dsimp only; walk1)))
              refine join_list ⟨_, hoD, rfl, nD, rfl⟩ hys (single_ok _ (fun k => 65 + r / 16 ^ k % 16) (by simp; omega) _ (by decide)) ?_
              intro t₈ k₈
              rw [single_join _ (fun k => 65 + r / 16 ^ k % 16)]
              have hlet : (List.map (fun k => 65 + r / 16 ^ k % 16) (List.range z).reverse) = lettersAt i q := by
                rw [← letters_figs, ← hpad, pad, List.map_map]; rfl
              rw [hlet]
              dsimp only
              repeat' (first | (k_unfold; (try dsimp only)) | ((fail_if_success (with_reducible show wpAny _ _ (call (Value.builtin "list.extend") _ _) _ _ _)); first | walk1 | (dsimp only; walk1)))
              rename Fr _ _ _ _ => Fa; rename News _ _ _ _ => Na
              refine extL Fa Na (.head _) (Nat.succ_pos _) (by k_upd) (by simp; omega) ?_
              intro ha Fb Nb
              clear Fa Na
              dsimp only at Nb ⊢
              repeat' (first | (k_unfold; (try dsimp only)) | ((fail_if_success (with_reducible show (_ ∧ _))); first | walk1 | (dsimp only; walk1)))
              rename Fr _ _ _ _ => Fc; rename News _ _ _ _ => Nc
              refine ⟨_, _, _, [(lt, _), (s.heap.objs.size + 1, oc3)], rfl, Fc, News.perm Nc (fun p hp => .tail _ (.tail _ hp)), ?_, ⟨_, _, _, _, rfl, rfl, hoc3, rfl, ?_⟩⟩
              · simp only [List.mem_cons, List.not_mem_nil, or_false, forall_eq_or_imp, forall_eq]
                exact ⟨n1, n2⟩
              · rw [htk, toldFrom_append, List.length_take, Nat.min_eq_left (Nat.le_of_lt hin)]
                simp only [toldFrom, Nat.zero_add, List.append_nil]
                rw [toldAt_eq, hhl, if_pos hz0, ← List.append_assoc, Array.toList_append]
                exact hits.append (.int _ _ (.str _ _ .nil))
          · have hz0 : ¬ 0 < z := by omega
            rename Fr _ _ _ _ => Fc; rename News _ _ _ _ => Nc
            refine ⟨_, _, _, [(lt, _), (s.heap.objs.size + 1, oc3)], rfl, Fc, Nc, ?_, ⟨_, _, _, _, rfl, rfl, hoc3, rfl, ?_⟩⟩
            · simp only [List.mem_cons, List.not_mem_nil, or_false, forall_eq_or_imp, forall_eq]
              exact ⟨n1, n2⟩
            · rw [htk, toldFrom_append, List.length_take, Nat.min_eq_left (Nat.le_of_lt hin)]
              simp only [toldFrom, Nat.zero_add, List.append_nil]
              rw [toldAt_eq, hhl, if_neg hz0, List.append_nil]
              exact hits
  · clear F₂ N₂
    rintro m₁ news₁ h tk ⟨us, k, oc, cv, hm1, hm2, hoc, rfl, hus⟩ F₃ N₃
    replace F₃ := frPut2 F₃ hm1 hm2
    rw [List.take_length] at hus
    have hun : us.size ≤ 600000 := by
      have h1 := toldFrom_len row 0
      have h2 := hus.length
      simp only [Array.length_toList] at h2
      omega
    have hi2 : (row.length : Int).fmod 2 = (row.length : Int) % 2 := Int.fmod_eq_emod_of_nonneg _ (by decide)
    have hlt3 : (s.heap.objs.size + 1 : Nat) < lt := by omega
    repeat' (first | (k_unfold; (try dsimp only)) | ((fail_if_success (with_reducible show wpAny _ _ (call (Value.builtin "list.extend") _ _) _ _ _)); first | walk1 | (dsimp only; walk1)))
    · rename Fr _ _ _ _ => Fa; rename News _ _ _ _ => Na
      refine extL Fa Na (.head _) (Nat.succ_pos _) (by k_upd) (by simp; omega) ?_
      intro ha Fb Nb
      clear Fa Na
      dsimp only at Nb ⊢
      repeat' (first | (k_unfold; (try dsimp only)) | (first | walk1 | (dsimp only; walk1)))
      have hev : row.length % 2 = 0 := by omega
      refine hR lt _ _ _ _ Fb.keep (Nb.fresh (.tail _ (.head _))) (Nb.get (.tail _ (.head _))) ?_
      unfold told lastTold
      rw [if_pos hev, Array.toList_append]
      exact hus.append (.int _ _ (.str _ _ .nil))
    · have hod : ¬ row.length % 2 = 0 := by omega
      refine hR lt _ _ _ _ F₃.keep (N₃.fresh (.head _)) (N₃.get (.head _)) ?_
      unfold told lastTold
      rw [if_neg hod, List.append_nil]
      exact hus
end Mine
end

section -- SreP
open PySem PySem.W PyProof.Rows
namespace Mine
open PySem.Sre

def reCode : Array Nat := #[14, 4, 0, 1, 4294967295, 17, 0, 7, 14, 24, 10, 1, 4294967295, 13, 5, 22, 48, 57, 0, 1, 15, 17, 15, 13, 11, 9, 0, 26624, 2147483648, 0, 0, 0, 0, 0, 0, 15, 2, 0, 17, 1, 1]

def isDig (c : Nat) : Bool := 48 ≤ c && c ≤ 57
def isSep (c : Nat) : Bool := c == 43 || c == 45 || c == 46 || c == 95

theorem acc_dig (c : Nat) (seen : Sre.Seen) : ∃ seen', accepts reCode 13 c seen = .ok (isDig c, seen') := by
  have h1 : accepts reCode 13 c seen = (if (48 ≤ c && c ≤ 57) = true then .ok (true, seen.add 22) else inSet reCode c 40 18 true (seen.add 22)) := rfl
  rw [h1]
  unfold isDig
  by_cases h : (decide (48 ≤ c) && decide (c ≤ 57)) = true
  · exact ⟨_, by rw [if_pos h, h]⟩
  · rw [if_neg h]
    have h2 : (decide (48 ≤ c) && decide (c ≤ 57)) = false := by simpa using h
    rw [h2]
    exact ⟨_, rfl⟩

theorem sep_bits : ∀ c : Fin 256, ((reCode.getD (25 + (1 + c.val / 32)) 0).testBit (c.val % 32)) = isSep c.val := by decide +kernel

theorem acc_sep (c : Nat) (seen : Sre.Seen) : ∃ seen', accepts reCode 23 c seen = .ok (isSep c, seen') := by
  have h1 : accepts reCode 23 c seen = (if (decide (c < 256) && (reCode.getD (25 + (1 + c / 32)) 0).testBit (c % 32)) = true then .ok (true, seen.add 9) else inSet reCode c 40 34 true (seen.add 9)) := rfl
  rw [h1]
  have h3 : (decide (c < 256) && (reCode.getD (25 + (1 + c / 32)) 0).testBit (c % 32)) = isSep c := by
    by_cases hc : c < 256
    · have := sep_bits ⟨c, hc⟩
      simp only [decide_eq_true hc, Bool.true_and]
      exact this
    · simp only [decide_eq_false hc, Bool.false_and]
      unfold isSep
      have e : ∀ k, k < 256 → (c == k) = false := fun k hk => by rw [beq_eq_false_iff_ne]; omega
      rw [e 43 (by decide), e 45 (by decide), e 46 (by decide), e 95 (by decide)]; rfl
  rw [h3]
  by_cases h : isSep c = true
  · exact ⟨_, by rw [if_pos h, h]⟩
  · rw [if_neg h]
    have h2 : isSep c = false := by simpa using h
    rw [h2]
    exact ⟨_, rfl⟩

/-- the machine at a try at p -/
abbrev f0 (p : Nat) (b : Bool) : Sre.Frame := { wait := .nextStart, pc := 5, pos := p, outermost := b }
abbrev mS (text : Array Nat) (lim p : Nat) (b : Bool) (marks : Array (Option Nat)) (seen : Sre.Seen) : M :=
  { code := reCode, text, lim, start := p, lastStart := lim, pc := 5, pos := p, handed := p, outermost := b, marks, frames := [f0 p b], weight := 1, seen }
abbrev kp : Sre.Kept := { lastmark := 0, lastindex := -1 }
abbrev f1 (p : Nat) (b : Bool) : Sre.Frame := { wait := .nextBranch, pc := 8, pos := p, outermost := b, kept := kp }
/-- behind MARK and BRANCH -/
abbrev mB (text : Array Nat) (lim p : Nat) (b : Bool) (marks : Array (Option Nat)) (seen : Sre.Seen) : M :=
  { code := reCode, text, lim, start := p, lastStart := lim, pc := 9, pos := p, handed := p, outermost := b, marks, lastmark := 0, frames := [f1 p b, f0 p b], weight := 2, seen }
theorem step_SB (text : Array Nat) (lim p : Nat) (b : Bool) (marks : Array (Option Nat)) (seen : Sre.Seen) :
    (mS text lim p b marks seen).step.step = mB text lim p b (marks.setIfInBounds 0 (some p)) ((seen.add 17).add 7) := rfl

def digRun (text : Array Nat) : Nat → Nat → Nat
  | 0, _ => 0
  | n + 1, p => if isDig (text.getD p 0) then 1 + digRun text n (p + 1) else 0

theorem run_dig (text : Array Nat) : ∀ (n p found : Nat) (seen : Sre.Seen), ∃ seen', run reCode text 13 n p found seen = .ok (found + digRun text n p, seen')
  | 0, p, found, seen => ⟨seen, rfl⟩
  | n + 1, p, found, seen => by
    obtain ⟨s1, h1⟩ := acc_dig (text.getD p 0) seen
    have e : run reCode text 13 (n + 1) p found seen = (match accepts reCode 13 (text.getD p 0) seen with
      | .ok (yes, seen) => if yes = true then run reCode text 13 n (p + 1) (found + 1) seen else pure (found, seen)
      | .error w => .error w) := by
      show (accepts reCode 13 (text.getD p 0) seen >>= fun x => _) = _
      cases accepts reCode 13 (text.getD p 0) seen with
      | error w => rfl
      | ok x => obtain ⟨y, z⟩ := x; rfl
    rw [e, h1]
    unfold digRun
    by_cases h : isDig (text.getD p 0) = true
    · obtain ⟨s2, h2⟩ := run_dig text n (p + 1) (found + 1) s1
      rw [if_pos h]
      refine ⟨s2, ?_⟩
      dsimp only
      rw [if_pos h, h2, Nat.add_assoc]
    · rw [if_neg h]
      refine ⟨s1, ?_⟩
      dsimp only
      rw [if_neg h]; rfl

abbrev f2 (p n : Nat) (b : Bool) : Sre.Frame := { wait := .giveBack, pc := 9, pos := p + n, outermost := b, count := n, kept := kp }
abbrev mG (text : Array Nat) (lim p n : Nat) (b : Bool) (marks : Array (Option Nat)) (seen : Sre.Seen) : M :=
  { code := reCode, text, lim, start := p, lastStart := lim, pc := 20, pos := p + n, handed := p + n, outermost := b, marks, lastmark := 0, frames := [f2 p n b, f1 p b, f0 p b], weight := 3, seen }

theorem step_B (text : Array Nat) (lim p : Nat) (b : Bool) (marks : Array (Option Nat)) (seen : Sre.Seen) :
    (mB text lim p b marks seen).step = (if ((1 : Nat) : Int) > (lim : Int) - (p : Int) then M.say { mB text lim p b marks seen with seen := seen.add 24 } false else
      match run reCode text 13 (min 4294967295 ((lim : Int) - (p : Int)).toNat) p 0 ((seen.add 24).add 13) with
      | .error why => M.stick { mB text lim p b marks seen with seen := seen.add 24 } why
      | .ok (n, seen') => if n < 1 then M.say { mB text lim p b marks seen with seen := seen' } false else mG text lim p n b marks seen') := rfl

theorem step_B_yes {text : Array Nat} {lim p n : Nat} {b : Bool} {marks : Array (Option Nat)} {seen : Sre.Seen} (hp : p < lim) (hl : lim < 4294967295) (hn : digRun text (lim - p) p = n) (h1 : 0 < n) :
    ∃ seen', (mB text lim p b marks seen).step = mG text lim p n b marks seen' := by
  obtain ⟨s1, e1⟩ := run_dig text (lim - p) p 0 ((seen.add 24).add 13)
  refine ⟨s1, ?_⟩
  rw [step_B, if_neg (by omega), show min 4294967295 ((lim : Int) - (p : Int)).toNat = lim - p from by omega, e1]
  dsimp only
  rw [Nat.zero_add, hn, if_neg (by omega)]
theorem step_B_no {text : Array Nat} {lim p : Nat} {b : Bool} {marks : Array (Option Nat)} {seen : Sre.Seen} (hl : lim < 4294967295) (hn : p < lim → digRun text (lim - p) p = 0) :
    ∃ seen', (mB text lim p b marks seen).step = M.say { mB text lim p b marks seen with seen := seen' } false := by
  by_cases hp : p < lim
  · obtain ⟨s1, e1⟩ := run_dig text (lim - p) p 0 ((seen.add 24).add 13)
    refine ⟨s1, ?_⟩
    rw [step_B, if_neg (by omega), show min 4294967295 ((lim : Int) - (p : Int)).toNat = lim - p from by omega, e1]
    dsimp only
    rw [Nat.zero_add, hn hp, if_pos (by omega)]
  · exact ⟨_, by rw [step_B, if_pos (by omega)]⟩

def Found (m : M) (p e : Nat) : Prop := m.outcome = some .matched ∧ m.start = p ∧ m.handed = e ∧ m.lastmark = 1 ∧ m.marks.getD 0 none = some p ∧ m.marks.getD 1 none = some e

/-- at the end of the pattern -/
abbrev mX (text : Array Nat) (lim p e h pc : Nat) (lm li : Int) (b : Bool) (marks : Array (Option Nat)) (fs : List Sre.Frame) (wt : Nat) (seen : Sre.Seen) : M :=
  { code := reCode, text, lim, start := p, lastStart := lim, pc, pos := e, handed := h, outermost := b, marks, lastmark := lm, lastindex := li, frames := fs, weight := wt, seen }
theorem step_mark {text : Array Nat} {lim p e h : Nat} {b : Bool} {marks : Array (Option Nat)} {fs : List Sre.Frame} {wt : Nat} {seen : Sre.Seen} :
    (mX text lim p e h 38 0 (-1) b marks fs wt seen).step = mX text lim p e h 40 1 1 b (marks.setIfInBounds 1 (some e)) fs wt (seen.add 17) := by
  have e1 : (mX text lim p e h 38 0 (-1) b marks fs wt seen).step = M.mark (mX text lim p e h 38 0 (-1) b marks fs wt (seen.add 17)) 1 := rfl
  rw [e1]
  unfold M.mark
  dsimp only
  rw [if_pos (by decide)]
  rfl
theorem step_succ {text : Array Nat} {lim p e h : Nat} {b : Bool} {marks : Array (Option Nat)} {fs : List Sre.Frame} {wt : Nat} {seen : Sre.Seen} :
    (mX text lim p e h 40 1 1 b marks fs wt seen).step = M.say (mX text lim p e e 40 1 1 b marks fs wt (seen.add 1)) true := by
  show (if (b && ((false && e != lim) || (false && e == p))) = true then _ else _) = _
  rw [show (b && ((false && e != lim) || (false && e == p))) = false from by simp]
  rfl
theorem found_marks {marks : Array (Option Nat)} {p e : Nat} (h2 : marks.size = 2) (h0 : marks.getD 0 none = some p) :
    (marks.setIfInBounds 1 (some e)).getD 0 none = some p ∧ (marks.setIfInBounds 1 (some e)).getD 1 none = some e := by
  constructor
  · simp only [Array.getD_eq_getD_getElem?] at h0 ⊢
    rw [Array.getElem?_setIfInBounds_ne (by decide)]; exact h0
  · simp [Array.getD_eq_getD_getElem?, h2]
theorem step_jumpG {text : Array Nat} {lim p n : Nat} {b : Bool} {marks : Array (Option Nat)} {seen : Sre.Seen} :
    (mG text lim p n b marks seen).step = mX text lim p (p + n) (p + n) 38 0 (-1) b marks [f2 p n b, f1 p b, f0 p b] 3 (seen.add 15) := rfl
theorem steps_upG {text : Array Nat} {lim p n e : Nat} {b : Bool} {marks : Array (Option Nat)} {seen : Sre.Seen} :
    (M.say (mX text lim p e e 40 1 1 b marks [f2 p n b, f1 p b, f0 p b] 3 seen) true).step.step.step.step = { mX text lim p p e 5 1 1 b marks [] 0 seen with answer := some true, outcome := some .matched } := rfl
theorem steps_G {text : Array Nat} {lim p n : Nat} {b : Bool} {marks : Array (Option Nat)} {seen : Sre.Seen} (h2 : marks.size = 2) (h0 : marks.getD 0 none = some p) :
    Found (mG text lim p n b marks seen).step.step.step.step.step.step.step p (p + n) := by
  rw [step_jumpG, step_mark, step_succ, steps_upG]
  have := found_marks (e := p + n) h2 h0
  exact ⟨rfl, rfl, rfl, rfl, this.1, this.2⟩

abbrev f1' (p : Nat) (b : Bool) : Sre.Frame := { wait := .nextBranch, pc := 22, pos := p, outermost := b, kept := kp }
abbrev mC (text : Array Nat) (lim p : Nat) (b : Bool) (marks : Array (Option Nat)) (seen : Sre.Seen) : M :=
  { code := reCode, text, lim, start := p, lastStart := lim, pc := 23, pos := p, handed := p, outermost := b, marks, lastmark := 0, frames := [f1' p b, f0 p b], weight := 2, seen }
theorem step_BC (text : Array Nat) (lim p : Nat) (b : Bool) (marks : Array (Option Nat)) (seen : Sre.Seen) :
    (M.say { mB text lim p b marks seen with seen := seen } false).step = mC text lim p b marks seen := rfl
abbrev mJ (text : Array Nat) (lim p : Nat) (b : Bool) (marks : Array (Option Nat)) (seen : Sre.Seen) : M :=
  { code := reCode, text, lim, start := p, lastStart := lim, pc := 35, pos := p + 1, handed := p, outermost := b, marks, lastmark := 0, frames := [f1' p b, f0 p b], weight := 2, seen }
theorem step_C (text : Array Nat) (lim p : Nat) (b : Bool) (marks : Array (Option Nat)) (seen : Sre.Seen) :
    (mC text lim p b marks seen).step = (if p ≥ lim then M.say { mC text lim p b marks seen with seen := seen.add 13 } false else
      match accepts reCode 23 (text.getD p 0) (seen.add 13) with
      | .error why => M.stick { mC text lim p b marks seen with seen := seen.add 13 } why
      | .ok (false, seen') => M.say { mC text lim p b marks seen with seen := seen' } false
      | .ok (true, seen') => mJ text lim p b marks seen') := rfl
theorem step_C_yes {text : Array Nat} {lim p : Nat} {b : Bool} {marks : Array (Option Nat)} {seen : Sre.Seen} (hp : p < lim) (hs : isSep (text.getD p 0) = true) :
    ∃ seen', (mC text lim p b marks seen).step = mJ text lim p b marks seen' := by
  obtain ⟨s1, e1⟩ := acc_sep (text.getD p 0) (seen.add 13)
  exact ⟨s1, by rw [step_C, if_neg (by omega), e1, hs]⟩
theorem step_C_no {text : Array Nat} {lim p : Nat} {b : Bool} {marks : Array (Option Nat)} {seen : Sre.Seen} (hs : p < lim → isSep (text.getD p 0) = false) :
    ∃ seen', (mC text lim p b marks seen).step = M.say { mC text lim p b marks seen with seen := seen' } false := by
  by_cases hp : p < lim
  · obtain ⟨s1, e1⟩ := acc_sep (text.getD p 0) (seen.add 13)
    exact ⟨s1, by rw [step_C, if_neg (by omega), e1, hs hp]⟩
  · exact ⟨_, by rw [step_C, if_pos (by omega)]⟩
theorem step_jumpJ {text : Array Nat} {lim p : Nat} {b : Bool} {marks : Array (Option Nat)} {seen : Sre.Seen} :
    (mJ text lim p b marks seen).step = mX text lim p (p + 1) p 38 0 (-1) b marks [f1' p b, f0 p b] 2 (seen.add 15) := rfl
theorem steps_upJ {text : Array Nat} {lim p e : Nat} {b : Bool} {marks : Array (Option Nat)} {seen : Sre.Seen} :
    (M.say (mX text lim p e e 40 1 1 b marks [f1' p b, f0 p b] 2 seen) true).step.step.step = { mX text lim p p e 5 1 1 b marks [] 0 seen with answer := some true, outcome := some .matched } := rfl
theorem steps_J {text : Array Nat} {lim p : Nat} {b : Bool} {marks : Array (Option Nat)} {seen : Sre.Seen} (h2 : marks.size = 2) (h0 : marks.getD 0 none = some p) :
    Found (mJ text lim p b marks seen).step.step.step.step.step.step p (p + 1) := by
  rw [step_jumpJ, step_mark, step_succ, steps_upJ]
  have := found_marks (e := p + 1) h2 h0
  exact ⟨rfl, rfl, rfl, rfl, this.1, this.2⟩
abbrev mE (text : Array Nat) (lim p : Nat) (b : Bool) (marks : Array (Option Nat)) (seen : Sre.Seen) : M :=
  { code := reCode, text, lim, start := p, lastStart := lim, pc := 22, pos := p, handed := p, outermost := b, marks, lastmark := 0, frames := [f0 p b], weight := 1, answer := some false, seen }
theorem step_CE (text : Array Nat) (lim p : Nat) (b : Bool) (marks : Array (Option Nat)) (seen : Sre.Seen) :
    (M.say { mC text lim p b marks seen with seen := seen } false).step = mE text lim p b marks seen := rfl
abbrev mZ (text : Array Nat) (lim p : Nat) (b : Bool) (marks : Array (Option Nat)) (seen : Sre.Seen) : M :=
  { code := reCode, text, lim, start := p, lastStart := lim, pc := 5, pos := p, handed := p, outermost := b, marks, lastmark := 0, frames := [], weight := 0, answer := some false, seen }
theorem step_E (text : Array Nat) (lim p : Nat) (b : Bool) (marks : Array (Option Nat)) (seen : Sre.Seen) :
    (mE text lim p b marks seen).step = (if p < lim then mS text lim (p + 1) false marks seen else mZ text lim p b marks seen) := rfl
theorem step_Z (text : Array Nat) (lim p : Nat) (b : Bool) (marks : Array (Option Nat)) (seen : Sre.Seen) :
    (mZ text lim p b marks seen).step = { mZ text lim p b marks seen with outcome := some .failed } := rfl
end Mine
end

section -- SreQ
open PySem PySem.W PyProof.Rows
namespace Mine
open PySem.Sre

theorem runFor_done {m : M} (h : m.outcome.isSome = true) : ∀ n, M.runFor n m = m
  | 0 => rfl
  | n + 1 => by rw [M.runFor, if_pos h]
theorem runFor_step {m : M} {k : Nat} (h : m.outcome = none) : M.runFor (k + 1) m = M.runFor k m.step := by
  rw [M.runFor, h]; rfl
theorem runFor_add : ∀ (a b : Nat) (m : M), M.runFor (a + b) m = M.runFor b (M.runFor a m)
  | 0, b, m => by rw [Nat.zero_add]; rfl
  | a + 1, b, m => by
    by_cases h : m.outcome.isSome = true
    · rw [runFor_done h, runFor_done h, runFor_done h]
    · have h' : m.outcome = none := by cases q : m.outcome with | none => rfl | some x => rw [q] at h; exact absurd rfl h
      rw [show a + 1 + b = a + b + 1 from by omega, runFor_step h', runFor_step h', runFor_add a b]

/-- it comes to m' within k steps -/
def Comes (m : M) (k : Nat) (m' : M) : Prop := M.runFor k m = m'
theorem Comes.trans {m m' m'' : M} {a b : Nat} (h1 : Comes m a m') (h2 : Comes m' b m'') : Comes m (a + b) m'' := by
  unfold Comes at *; rw [runFor_add, h1, h2]
theorem comes1 {m m' : M} (h : m.outcome = none) (e : m.step = m') : Comes m 1 m' := by
  unfold Comes; rw [show (1 : Nat) = 0 + 1 from rfl, runFor_step h, e]; rfl

section
variable {text : Array Nat} {lim p : Nat} {b : Bool} {marks : Array (Option Nat)} {seen : Sre.Seen}

theorem comes_B : Comes (mS text lim p b marks seen) 2 (mB text lim p b (marks.setIfInBounds 0 (some p)) ((seen.add 17).add 7)) :=
  (comes1 rfl rfl).trans (comes1 rfl (step_SB text lim p b marks seen))

theorem marks0 (h2 : marks.size = 2) : (marks.setIfInBounds 0 (some p)).size = 2 ∧ (marks.setIfInBounds 0 (some p)).getD 0 none = some p := by
  constructor
  · simpa using h2
  · simp [Array.getD_eq_getD_getElem?, h2]

theorem found_dig (h2 : marks.size = 2) (hp : p < lim) (hl : lim < 4294967295) {n : Nat} (hn : digRun text (lim - p) p = n) (h1 : 0 < n) :
    ∃ m', Comes (mS text lim p b marks seen) 10 m' ∧ Found m' p (p + n) := by
  obtain ⟨s1, e1⟩ := step_B_yes (b := b) (marks := marks.setIfInBounds 0 (some p)) (seen := (seen.add 17).add 7) hp hl hn h1
  have hm := marks0 (p := p) h2
  have c1 := comes_B (text := text) (lim := lim) (p := p) (b := b) (marks := marks) (seen := seen)
  have c2 := c1.trans (comes1 rfl e1)
  have F := steps_G (text := text) (lim := lim) (p := p) (n := n) (b := b) (seen := s1) hm.1 hm.2
  refine ⟨_, c2.trans (b := 7) ?_, F⟩
  unfold Comes
  rw [runFor_step rfl, step_jumpG, runFor_step rfl, step_mark, runFor_step rfl, step_succ, runFor_step rfl, runFor_step rfl, runFor_step rfl, runFor_step rfl]
  rfl
theorem found_sep (h2 : marks.size = 2) (hp : p < lim) (hl : lim < 4294967295) (hn : digRun text (lim - p) p = 0) (hs : isSep (text.getD p 0) = true) :
    ∃ m', Comes (mS text lim p b marks seen) 11 m' ∧ Found m' p (p + 1) := by
  obtain ⟨s1, e1⟩ := step_B_no (b := b) (marks := marks.setIfInBounds 0 (some p)) (seen := (seen.add 17).add 7) hl (fun _ => hn)
  obtain ⟨s2, e2⟩ := step_C_yes (b := b) (marks := marks.setIfInBounds 0 (some p)) (seen := s1) hp hs
  have hm := marks0 (p := p) h2
  have c1 := comes_B (text := text) (lim := lim) (p := p) (b := b) (marks := marks) (seen := seen)
  have c2 := ((c1.trans (comes1 rfl e1)).trans (comes1 rfl (step_BC text lim p b _ s1))).trans (comes1 rfl e2)
  have F := steps_J (text := text) (lim := lim) (p := p) (b := b) (seen := s2) hm.1 hm.2
  refine ⟨_, c2.trans (b := 6) ?_, F⟩
  unfold Comes
  rw [runFor_step rfl, step_jumpJ, runFor_step rfl, step_mark, runFor_step rfl, step_succ, runFor_step rfl, runFor_step rfl, runFor_step rfl]
  rfl
theorem next_start (hp : p < lim) (hl : lim < 4294967295) (hn : digRun text (lim - p) p = 0) (hs : isSep (text.getD p 0) = false) :
    ∃ seen', Comes (mS text lim p b marks seen) 7 (mS text lim (p + 1) false (marks.setIfInBounds 0 (some p)) seen') := by
  obtain ⟨s1, e1⟩ := step_B_no (b := b) (marks := marks.setIfInBounds 0 (some p)) (seen := (seen.add 17).add 7) hl (fun _ => hn)
  obtain ⟨s2, e2⟩ := step_C_no (text := text) (lim := lim) (p := p) (b := b) (marks := marks.setIfInBounds 0 (some p)) (seen := s1) (fun _ => hs)
  have c1 := comes_B (text := text) (lim := lim) (p := p) (b := b) (marks := marks) (seen := seen)
  have c2 := ((c1.trans (comes1 rfl e1)).trans (comes1 rfl (step_BC text lim p b _ s1))).trans (comes1 rfl e2)
  have c3 := c2.trans (comes1 rfl (step_CE text lim p b _ s2))
  have e3 := step_E text lim p b (marks.setIfInBounds 0 (some p)) s2
  rw [if_pos hp] at e3
  exact ⟨s2, c3.trans (comes1 rfl e3)⟩
theorem no_more (hl : lim < 4294967295) :
    ∃ m', Comes (mS text lim lim b marks seen) 8 m' ∧ m'.outcome = some .failed := by
  obtain ⟨s1, e1⟩ := step_B_no (text := text) (lim := lim) (p := lim) (b := b) (marks := marks.setIfInBounds 0 (some lim)) (seen := (seen.add 17).add 7) hl (fun q => absurd q (Nat.lt_irrefl _))
  obtain ⟨s2, e2⟩ := step_C_no (text := text) (lim := lim) (p := lim) (b := b) (marks := marks.setIfInBounds 0 (some lim)) (seen := s1) (fun q => absurd q (Nat.lt_irrefl _))
  have c1 := comes_B (text := text) (lim := lim) (p := lim) (b := b) (marks := marks) (seen := seen)
  have c2 := ((c1.trans (comes1 rfl e1)).trans (comes1 rfl (step_BC text lim lim b _ s1))).trans (comes1 rfl e2)
  have c3 := c2.trans (comes1 rfl (step_CE text lim lim b _ s2))
  have e3 := step_E text lim lim b (marks.setIfInBounds 0 (some lim)) s2
  rw [if_neg (Nat.lt_irrefl _)] at e3
  exact ⟨_, (c3.trans (comes1 rfl e3)).trans (comes1 rfl (step_Z text lim lim b _ s2)), rfl⟩
end

theorem digRun_le (text : Array Nat) : ∀ n p, digRun text n p ≤ n
  | 0, _ => Nat.le_refl _
  | n + 1, p => by
    unfold digRun
    split
    · have := digRun_le text n (p + 1); omega
    · omega
theorem digRun_dig (text : Array Nat) : ∀ n p j, j < digRun text n p → isDig (text.getD (p + j) 0) = true
  | 0, _, _, h => by simp [digRun] at h
  | n + 1, p, j, h => by
    unfold digRun at h
    split at h
    · rename_i hd
      cases j with
      | zero => exact hd
      | succ j => rw [show p + (j + 1) = p + 1 + j from by omega]; exact digRun_dig text n (p + 1) j (by omega)
    · omega
theorem digRun_stop (text : Array Nat) : ∀ n p, digRun text n p < n → isDig (text.getD (p + digRun text n p) 0) = false
  | 0, _, h => by omega
  | n + 1, p, h => by
    unfold digRun at h ⊢
    split
    · rename_i hd
      rw [if_pos hd] at h
      rw [show p + (1 + digRun text n (p + 1)) = p + 1 + digRun text n (p + 1) from by omega]
      exact digRun_stop text n (p + 1) (by omega)
    · rename_i hd; simpa using hd

def isTok (c : Nat) : Bool := isDig c || isSep c
/-- the next token from p -/
inductive Next (text : Array Nat) (p : Nat) : Prop where
  | none (h : ∀ j, p ≤ j → j < text.size → isTok (text.getD j 0) = false)
  | sep (s : Nat) (hp : p ≤ s) (hs : s < text.size) (h : ∀ j, p ≤ j → j < s → isTok (text.getD j 0) = false) (hd : isDig (text.getD s 0) = false) (hc : isSep (text.getD s 0) = true)
  | dig (s n : Nat) (hp : p ≤ s) (hn : 0 < n) (hs : s + n ≤ text.size) (h : ∀ j, p ≤ j → j < s → isTok (text.getD j 0) = false) (hd : digRun text (text.size - s) s = n)

theorem digRun_zero {text : Array Nat} {n p : Nat} (h : isDig (text.getD p 0) = false) : digRun text n p = 0 := by
  cases n with
  | zero => rfl
  | succ n => unfold digRun; rw [h]; rfl
theorem digRun_pos {text : Array Nat} {n p : Nat} (hn : 0 < n) (h : isDig (text.getD p 0) = true) : 0 < digRun text n p := by
  cases n with
  | zero => omega
  | succ n => unfold digRun; rw [h]; simp; omega

/-- what the search finds -/
theorem search_all (text : Array Nat) (hl : text.size < 4294967295) : ∀ (d p : Nat), text.size - p = d → p ≤ text.size → ∀ b marks seen, marks.size = 2 →
    (∃ k m', k ≤ 7 * d + 8 ∧ Comes (mS text text.size p b marks seen) k m' ∧ m'.outcome = some .failed ∧ ∀ j, p ≤ j → j < text.size → isTok (text.getD j 0) = false) ∨
    (∃ k m' s e, k ≤ 7 * d + 11 ∧ Comes (mS text text.size p b marks seen) k m' ∧ Found m' s e ∧ p ≤ s ∧ s < e ∧ e ≤ text.size ∧ (∀ j, p ≤ j → j < s → isTok (text.getD j 0) = false) ∧
      ((isDig (text.getD s 0) = false ∧ isSep (text.getD s 0) = true ∧ e = s + 1) ∨ ((∀ j, s ≤ j → j < e → isDig (text.getD j 0) = true) ∧ (e < text.size → isDig (text.getD e 0) = false)))) := by
  intro d
  induction d with
  | zero =>
    intro p hd hp b marks seen h2
    have hpe : p = text.size := by omega
    subst hpe
    obtain ⟨m', c, ho⟩ := no_more (text := text) (b := b) (marks := marks) (seen := seen) hl
    exact .inl ⟨8, m', by omega, c, ho, fun j h1 h3 => by omega⟩
  | succ d ih =>
    intro p hd hp b marks seen h2
    have hlt : p < text.size := by omega
    cases hdig : isDig (text.getD p 0) with
    | true =>
      have hn := digRun_pos (n := text.size - p) (by omega) hdig
      obtain ⟨m', c, F⟩ := found_dig (b := b) (seen := seen) h2 hlt hl rfl hn
      have hle := digRun_le text (text.size - p) p
      refine .inr ⟨10, m', p, _, by omega, c, F, Nat.le_refl _, by omega, by omega, fun j h1 h3 => by omega, .inr ⟨fun j h1 h3 => ?_, fun h3 => ?_⟩⟩
      · have := digRun_dig text (text.size - p) p (j - p) (by omega)
        rwa [show p + (j - p) = j from by omega] at this
      · exact digRun_stop text (text.size - p) p (by omega)
    | false =>
      cases hsep : isSep (text.getD p 0) with
      | true =>
        obtain ⟨m', c, F⟩ := found_sep (b := b) (seen := seen) h2 hlt hl (digRun_zero hdig) hsep
        exact .inr ⟨11, m', p, p + 1, by omega, c, F, Nat.le_refl _, by omega, by omega, fun j h1 h3 => by omega, .inl ⟨hdig, hsep, rfl⟩⟩
      | false =>
        obtain ⟨s', c⟩ := next_start (b := b) (marks := marks) (seen := seen) hlt hl (digRun_zero hdig) hsep
        have htok : isTok (text.getD p 0) = false := by unfold isTok; rw [hdig, hsep]; rfl
        rcases ih (p + 1) (by omega) (by omega) false (marks.setIfInBounds 0 (some p)) s' (by simpa using h2) with ⟨k, m', hk, c', ho, hall⟩ | ⟨k, m', s, e, hk, c', F, h3, h4, h5, h6, h7⟩
        · refine .inl ⟨7 + k, m', by omega, c.trans c', ho, fun j h1 h3 => ?_⟩
          by_cases q : j = p
          · rw [q]; exact htok
          · exact hall j (by omega) h3
        · refine .inr ⟨7 + k, m', s, e, by omega, c.trans c', F, by omega, h4, h5, fun j h1 h3 => ?_, h7⟩
          by_cases q : j = p
          · rw [q]; exact htok
          · exact h6 j (by omega) h3
end Mine
end

section -- SreR
open PySem PySem.W PyProof.Rows
set_option maxRecDepth 100000
namespace Mine
open PySem.Sre PySem.Builtin

section
variable {M : Model} {A : Around} {E : Value → Shared → Prop} {s : Shared}

theorem drive_wp {Q : Sre.M → Shared → Prop} : ∀ (turns k : Nat) (m m' : Sre.M), Comes m k m' → m'.outcome.isSome = true → k ≤ 4 * turns → Q m' s → wpAny M A (Re.reDrive (turns + 1) m) Q E s := by
  intro turns
  induction turns with
  | zero =>
    intro k m m' hc ho hk hq
    have hk0 : k = 0 := by omega
    subst hk0
    have e : m = m' := hc
    subst e
    show wpAny M A (if (m.runFor Re.reTurnSteps).outcome.isSome = true then pure (m.runFor Re.reTurnSteps) else _) Q E s
    rw [runFor_done ho, if_pos ho]
    exact wpAny_pure hq
  | succ n ih =>
    intro k m m' hc ho hk hq
    show wpAny M A (if (m.runFor 4).outcome.isSome = true then pure (m.runFor 4) else (do rule "sre.turn"; Re.reDrive (n + 1) (m.runFor 4))) Q E s
    by_cases h4 : (m.runFor 4).outcome.isSome = true
    · rw [if_pos h4]
      have e : m.runFor 4 = m' := by
        unfold Comes at hc
        by_cases hk4 : k ≤ 4
        · rw [show (4 : Nat) = k + (4 - k) from by omega, runFor_add, hc, runFor_done ho]
        · rw [show k = 4 + (k - 4) from by omega, runFor_add, runFor_done h4] at hc
          exact hc
      rw [e]; exact wpAny_pure hq
    · rw [if_neg h4]
      have hk4 : 4 < k := by
        rcases Nat.lt_or_ge 4 k with h | h
        · exact h
        · exfalso; apply h4
          unfold Comes at hc
          rw [show (4 : Nat) = k + (4 - k) from by omega, runFor_add, hc, runFor_done ho]; exact ho
      have hc' : Comes (m.runFor 4) (k - 4) m' := by
        unfold Comes at hc ⊢
        rw [show k = 4 + (k - 4) from by omega, runFor_add] at hc
        exact hc
      exact wpAny_bind (wpAny_rule (ih (k - 4) _ m' hc' ho (by omega) hq))

theorem toEnd_found {Q : Option Sre.M → Shared → Prop} {m m' : Sre.M} {k : Nat} (hc : Comes m k m') (ho : m'.outcome = some .matched) (hk : k ≤ 73786976294838206460) (hq : Q (some m') s) :
    wpAny M A (Re.reRunToEnd m) Q E s := by
  unfold Re.reRunToEnd
  refine wpAny_bind ?_
  rw [show (2 : Nat) ^ 64 = 18446744073709551615 + 1 from by decide]
  refine drive_wp _ k m m' hc (by rw [ho]; rfl) (by omega) ?_
  refine wpAny_bind (wpAny_forIn_list _ (fun _ _ s' => s' = s) _ ?_ ?_ _ _ rfl)
  · rintro x rest b s' rfl
    split
    · exact wpAny_bind (wpAny_rule (wpAny_pure rfl))
    · first
      | exact wpAny_bind (wpAny_pure (wpAny_pure rfl))
      | exact wpAny_pure rfl
  · rintro b s' rfl
    rw [ho]
    exact wpAny_pure hq
theorem toEnd_failed {Q : Option Sre.M → Shared → Prop} {m m' : Sre.M} {k : Nat} (hc : Comes m k m') (ho : m'.outcome = some .failed) (hk : k ≤ 73786976294838206460) (hq : Q none s) :
    wpAny M A (Re.reRunToEnd m) Q E s := by
  unfold Re.reRunToEnd
  refine wpAny_bind ?_
  rw [show (2 : Nat) ^ 64 = 18446744073709551615 + 1 from by decide]
  refine drive_wp _ k m m' hc (by rw [ho]; rfl) (by omega) ?_
  refine wpAny_bind (wpAny_forIn_list _ (fun _ _ s' => s' = s) _ ?_ ?_ _ _ rfl)
  · rintro x rest b s' rfl
    split
    · exact wpAny_bind (wpAny_rule (wpAny_pure rfl))
    · first
      | exact wpAny_bind (wpAny_pure (wpAny_pure rfl))
      | exact wpAny_pure rfl
  · rintro b s' rfl
    rw [ho]
    exact wpAny_pure hq
end

/-- a search from p -/
theorem forSearch_in (text : Array Nat) (p : Nat) (h : p < text.size) : Sre.forSearch reCode text 1 p text.size false = mS text text.size p true #[none, none] (({} : Sre.Seen).add 14) := by
  have e : Sre.forSearch reCode text 1 p text.size false = (if (decide (p > text.size) || decide (text.size - p < 1)) = true then _ else mS text text.size p true #[none, none] (({} : Sre.Seen).add 14)) := rfl
  rw [e, if_neg]
  simp; omega
theorem forSearch_end (text : Array Nat) (p : Nat) (h : ¬ p < text.size) : ∃ m', Comes (Sre.forSearch reCode text 1 p text.size false) 1 m' ∧ m'.outcome = some .failed := by
  have e : ∃ X, Sre.forSearch reCode text 1 p text.size false = (if (decide (p > text.size) || decide (text.size - p < 1)) = true then M.say { code := reCode, text, lim := text.size, start := p, pc := 5, pos := p, handed := p, marks := #[none, none], seen := ({} : Sre.Seen).add 14 } false else X) := ⟨_, rfl⟩
  obtain ⟨X, e⟩ := e
  rw [if_pos (by simp; omega)] at e
  rw [e]
  exact ⟨_, comes1 rfl rfl, rfl⟩
end Mine
end

section -- SreS
open PySem PySem.W PyProof.Rows
set_option maxRecDepth 100000
namespace Mine
open PySem.Sre PySem.Builtin

/-- the pieces of a text: text, token, text, .. -/
def spl (acc : List Nat) (dig : Bool) : List Nat → List (List Nat)
  | [] => if dig then [acc, []] else [acc]
  | c :: r =>
    if dig then
      if isDig c then spl (acc ++ [c]) true r
      else if isSep c then acc :: [] :: [c] :: spl [] false r
      else acc :: spl [c] false r
    else if isDig c then acc :: spl [c] true r
    else if isSep c then acc :: [c] :: spl [] false r
    else spl (acc ++ [c]) false r

theorem spl_text (r : List Nat) : ∀ (pre acc : List Nat), (∀ c ∈ pre, isTok c = false) → spl acc false (pre ++ r) = spl (acc ++ pre) false r
  | [], acc, _ => by simp
  | c :: pre, acc, h => by
    have hc := h c (by simp)
    simp only [isTok, Bool.or_eq_false_iff] at hc
    rw [List.cons_append, spl, hc.1, hc.2]
    simp only [Bool.false_eq_true, if_false]
    rw [spl_text r pre _ (fun d hd => h d (by simp [hd])), List.append_assoc]; rfl
theorem spl_sep {c : Nat} {acc r : List Nat} (h1 : isDig c = false) (h2 : isSep c = true) : spl acc false (c :: r) = acc :: [c] :: spl [] false r := by
  rw [spl, h1, h2]; rfl
theorem spl_run (r : List Nat) (hr : ∀ c, r.head? = some c → isDig c = false) : ∀ (ds acc : List Nat), (∀ c ∈ ds, isDig c = true) → spl acc true (ds ++ r) = (acc ++ ds) :: spl [] false r
  | [], acc, _ => by
    rw [List.nil_append, List.append_nil]
    cases r with
    | nil => simp [spl]
    | cons c r =>
      have hc := hr c rfl
      rw [spl, spl, hc]
      cases h2 : isSep c <;> simp
  | c :: ds, acc, h => by
    have hc := h c (by simp)
    rw [List.cons_append, spl, hc]
    simp only [if_true]
    rw [spl_run r hr ds _ (fun d hd => h d (by simp [hd])), List.append_assoc]; rfl
theorem spl_dig {ds r acc : List Nat} (hne : ds ≠ []) (hd : ∀ c ∈ ds, isDig c = true) (hr : ∀ c, r.head? = some c → isDig c = false) : spl acc false (ds ++ r) = acc :: ds :: spl [] false r := by
  cases ds with
  | nil => exact absurd rfl hne
  | cons c ds =>
    have hc := hd c (by simp)
    rw [List.cons_append, spl, hc]
    simp only [Bool.false_eq_true, if_false, if_true]
    rw [spl_run r hr ds [c] (fun d hd' => hd d (by simp [hd']))]; rfl

theorem getD_list (text : Array Nat) (j : Nat) (h : j < text.size) : text.getD j 0 = text.toList[j]'(by simpa using h) := by
  simp [Array.getD, h]
theorem ext_list (text : Array Nat) (a b : Nat) : (text.extract a b).toList = (text.toList.drop a).take (b - a) := Array.toList_extract
theorem mem_ext {text : Array Nat} {a b c : Nat} (hb : b ≤ text.size) (h : c ∈ (text.extract a b).toList) : ∃ j, a ≤ j ∧ j < b ∧ text.getD j 0 = c := by
  rw [ext_list] at h
  obtain ⟨k, hk, e⟩ := List.getElem_of_mem h
  rw [List.length_take, List.length_drop, Array.length_toList] at hk
  rw [List.getElem_take, List.getElem_drop] at e
  refine ⟨a + k, by omega, by omega, ?_⟩
  rw [getD_list _ _ (by omega)]; exact e
theorem drop_split {text : Array Nat} {p s : Nat} (hp : p ≤ s) : text.toList.drop p = (text.extract p s).toList ++ text.toList.drop s := by
  have h := List.take_append_drop (s - p) (text.toList.drop p)
  rw [List.drop_drop, show p + (s - p) = s from by omega] at h
  rw [ext_list]; exact h.symm
theorem ext_last (text : Array Nat) (p : Nat) : (text.extract p text.size).toList = text.toList.drop p := by
  rw [ext_list, List.take_of_length_le]
  simp

theorem spl_last {text : Array Nat} {p : Nat} (h : ∀ j, p ≤ j → j < text.size → isTok (text.getD j 0) = false) : spl [] false (text.toList.drop p) = [(text.extract p text.size).toList] := by
  rw [← ext_last, ← List.append_nil (text.extract p text.size).toList, spl_text]
  · simp [spl]
  · intro c hc
    obtain ⟨j, h1, h2, rfl⟩ := mem_ext (Nat.le_refl _) hc
    exact h j h1 h2
theorem spl_next {text : Array Nat} {p s e : Nat} (hp : p ≤ s) (hs : s < e) (he : e ≤ text.size) (h : ∀ j, p ≤ j → j < s → isTok (text.getD j 0) = false)
    (hk : (isDig (text.getD s 0) = false ∧ isSep (text.getD s 0) = true ∧ e = s + 1) ∨ ((∀ j, s ≤ j → j < e → isDig (text.getD j 0) = true) ∧ (e < text.size → isDig (text.getD e 0) = false))) :
    spl [] false (text.toList.drop p) = (text.extract p s).toList :: (text.extract s e).toList :: spl [] false (text.toList.drop e) := by
  rw [drop_split hp, spl_text, List.nil_append, drop_split (Nat.le_of_lt hs)]
  · rcases hk with ⟨h1, h2, rfl⟩ | ⟨h1, h2⟩
    · have e1 : (text.extract s (s + 1)).toList = [text.getD s 0] := by
        rw [ext_list, show s + 1 - s = 1 from by omega, getD_list _ _ (by omega)]
        rw [List.drop_eq_getElem_cons (by simp; omega)]; rfl
      rw [e1, List.singleton_append, spl_sep h1 h2]
    · refine spl_dig ?_ ?_ ?_
      · intro q
        have := congrArg List.length q
        rw [ext_list, List.length_take, List.length_drop, Array.length_toList] at this
        simp at this; omega
      · intro c hc
        obtain ⟨j, h3, h4, rfl⟩ := mem_ext he hc
        exact h1 j h3 h4
      · intro c hc
        have hlt : e < text.size := by
          rcases Nat.lt_or_ge e text.size with q | q
          · exact q
          · rw [List.drop_eq_nil_of_le (by simpa using q)] at hc; simp at hc
        have := h2 hlt
        rw [getD_list _ _ hlt] at this
        rw [List.head?_drop, List.getElem?_eq_getElem (by simpa using hlt)] at hc
        rw [← Option.some.inj hc]; exact this
  · intro c hc
    obtain ⟨j, h3, h4, rfl⟩ := mem_ext (by omega) hc
    exact h j h3 h4
end Mine
end

section -- SreT
open PySem PySem.W PyProof.Rows
set_option maxRecDepth 100000
namespace Mine
open PySem.Sre PySem.Builtin

def patObj : Obj := { cls := .type "re.Pattern", data := .fields #[.str (Str.ofString "([0-9]+|[._+-])") 285, .int 32 329, .int 1 0, .none, .none, .ref 35, .int 0 0] }
def codeVals : Array Value := (reCode.toList.map fun n => Value.int (Int.ofNat n) 0).toArray
def codeObj : Obj := { cls := .type "tuple", data := .seq codeVals }

theorem code_back : (codeVals.map Re.reRawOf).map (·.toNat) = reCode := by decide +kernel
theorem named_ok (v : Value) : Re.reNamed "re.Pattern.split" "split" ["string", "maxsplit"] 1 [v] [] = pure [some v, none] := rfl

section
variable {prog : Program} {w : World} {A : Around} {E : Value → Shared → Prop} {s : Shared}
theorem target_wp {x : Str} {t : Tok} {Q : Re.ReTarget → Shared → Prop} (hp : s.heap.get? 36 = some patObj) (hc : s.heap.get? 35 = some codeObj)
    (h : Q { pattern := .ref 36, string := .str x t, code := reCode, text := x.cps, kind := 0, groups := 1, pos := 0, lim := x.cps.size } s) :
    wpAny (model prog w) A (Re.reWholeTarget (.ref 36) (.str x t)) Q E s := by
  unfold Re.reWholeTarget
  refine wpAny_bind (wpAny_fieldsOf hp rfl ?_)
  refine wpAny_bind (wpAny_of_eq (a := (x.cps, 0)) rfl ?_)
  dsimp only
  refine wpAny_bind (wpAny_of_eq (a := ()) rfl ?_)
  show wpAny _ _ (Re.reRawItems (.ref 35) >>= _) _ _ _
  refine wpAny_bind ?_
  unfold Re.reRawItems
  refine wpAny_bind (wpAny_seqItems hc rfl (wpAny_pure ?_))
  show wpAny _ _ (pure _) _ _ _
  refine wpAny_pure ?_
  have e : Array.map (fun x => x.toNat) (Array.map Re.reRawOf ((some codeVals).getD #[])) = reCode := code_back
  rw [e]
  exact h

theorem slice_wp {text : Array Nat} {b e : Nat} {Q : Value → Shared → Prop} (hz : text.size ≤ 2000000) (h : ∀ t' tk, Q (.str (strOf (text.extract b e).toList) t') { s with toks := tk }) :
    wpAny (model prog w) A (Re.reSlice text 0 b e) Q E s := by
  show wpAny _ _ (mkStr ⟨text.extract b e⟩) _ _ _
  refine wpAny_mkStr ?_ ?_
  · have := h s.toks (s.toks + 1)
    have e1 : strOf (text.extract b e).toList = ⟨text.extract b e⟩ := by unfold strOf; rw [Array.toArray_toList]
    rw [e1] at this
    exact this
  · show (text.extract b e).size ≤ sizeLine
    rw [sizeLine_eq, Array.size_extract]; omega

theorem group_wp {T : Re.ReTarget} {m : Sre.M} {p e : Nat} {Q : Value → Shared → Prop} (hk : T.kind = 0) (F : Found m p e) (hpe : p ≤ e) (hz : T.text.size ≤ 2000000) (h : ∀ t' tk, Q (.str (strOf (T.text.extract p e).toList) t') { s with toks := tk }) :
    wpAny (model prog w) A (Re.reMachineGroup T m (0 + 1) (pure .none)) Q E s := by
  obtain ⟨_, _, _, h1, h2, h3⟩ := F
  unfold Re.reMachineGroup
  rw [h1, if_neg (by decide)]
  have e2 : m.marks.getD (2 * (0 + 1 - 1)) none = some p := h2
  have e3 : m.marks.getD (2 * (0 + 1 - 1) + 1) none = some e := h3
  rw [e2, e3]
  dsimp only
  rw [if_neg (by omega), hk]
  exact slice_wp hz h

theorem nextFound_wp {text : Array Nat} {la : Nat} {Q : Option Sre.M → Shared → Prop} (hz : text.size ≤ 2000000) (hst : la ≤ text.size)
    (h1 : (∀ j, la ≤ j → j < text.size → isTok (text.getD j 0) = false) → Q none s)
    (h2 : ∀ m' p e, Found m' p e → la ≤ p → p < e → e ≤ text.size → (∀ j, la ≤ j → j < p → isTok (text.getD j 0) = false) →
      ((isDig (text.getD p 0) = false ∧ isSep (text.getD p 0) = true ∧ e = p + 1) ∨ ((∀ j, p ≤ j → j < e → isDig (text.getD j 0) = true) ∧ (e < text.size → isDig (text.getD e 0) = false))) → Q (some m') s) :
    wpAny (model prog w) A (Re.reRunToEnd (Sre.forSearch reCode text 1 la text.size false)) Q E s := by
  by_cases hlt : la < text.size
  · rw [forSearch_in _ _ hlt]
    have hs := search_all text (by omega) (text.size - la) la rfl hst true #[none, none] (({} : Sre.Seen).add 14) rfl
    generalize mS text text.size la true #[none, none] (({} : Sre.Seen).add 14) = M0 at hs ⊢
    rcases hs with ⟨k, m', hk, c, ho, hall⟩ | ⟨k, m', p, e, hk, c, F, h3, h4, h5, h6, h7⟩
    · exact toEnd_failed c ho (by omega) (h1 hall)
    · exact toEnd_found c F.1 (by omega) (h2 m' p e F h3 h4 h5 h6 h7)
  · have hs := forSearch_end text la hlt
    generalize Sre.forSearch reCode text 1 la text.size false = M0 at hs ⊢
    obtain ⟨m', c, ho⟩ := hs
    exact toEnd_failed c ho (by omega) (h1 fun j h1 h2 => by omega)

theorem split_tree {x : Str} {t : Tok} {Q : Value → Shared → Prop} (hp : s.heap.get? 36 = some patObj) (hc : s.heap.get? 35 = some codeObj) (hx : x.length ≤ 2000000)
    (h : ∀ (us : List Value) tk, StrsAre us ((spl [] false x.cps.toList).map strOf) → Q (.ref s.heap.objs.size) { s with heap := s.heap.push { cls := .type "list", data := .seq us.toArray }, toks := tk }) :
    wpAny (model prog w) A («re.Pattern.split» ⟨[.ref 36, .str x t], []⟩) (fun fin s' => ∃ v, fin = .done (.ret v) ∧ Q v s') E s := by
  unfold «re.Pattern.split»
  dsimp only
  rw [named_ok]
  refine wpAny_bind (wpAny_pure ?_)
  dsimp only
  refine wpAny_bind (wpAny_pure ?_)
  refine wpAny_bind (target_wp hp hc ?_)
  dsimp only
  have hz : x.cps.size ≤ 2000000 := hx
  refine wpAny_bind (wpAny_forIn_list _ (fun (rest : List Nat) (b : Array Value × Nat × Nat × Bool × Int × Bool) (s' : Shared) => ∃ tk, s' = { s with toks := tk } ∧ b.2.2.1 = b.2.1 ∧ b.2.2.2.1 = false ∧ b.2.1 ≤ x.cps.size ∧ b.1.size ≤ 2 * b.2.1 ∧ ∃ xs : List (List Nat), StrsAre b.1.toList (xs.map strOf) ∧
    ((b.2.2.2.2.2 = false ∧ x.cps.size - b.2.1 < rest.length ∧ xs ++ spl [] false (x.cps.toList.drop b.2.1) = spl [] false x.cps.toList) ∨
     (b.2.2.2.2.2 = true ∧ xs ++ [(x.cps.extract b.2.1 x.cps.size).toList] = spl [] false x.cps.toList))) _ ?_ ?_ _ _ ?_)
  · rintro i rest ⟨out, st0, la, mu, n, ov⟩ s' ⟨tk, rfl, hla, hmu, hst, hos, xs, hxs, hor⟩
    dsimp only at hla hmu hst hos hxs hor ⊢
    subst hla hmu
    rcases hor with ⟨rfl, hlen, hsp⟩ | ⟨rfl, hsp⟩
    · simp only [Bool.not_false, if_true]
      refine wpAny_bind ?_
      rw [if_neg (by simp)]
      show wpAny _ _ (Re.reRunToEnd (Sre.forSearch reCode x.cps 1 la x.cps.size false)) _ _ _
      have stop : (∀ j, la ≤ j → j < x.cps.size → isTok (x.cps.getD j 0) = false) → (xs ++ [(x.cps.extract la x.cps.size).toList] = spl [] false x.cps.toList) := by
        intro hall; rw [← hsp, spl_last hall]
      refine nextFound_wp hz hst ?_ ?_
      · intro hall
        exact wpAny_pure ⟨tk, rfl, rfl, rfl, hst, hos, xs, hxs, .inr ⟨rfl, stop hall⟩⟩
      · intro m' p e F h3 h4 h5 h6 h7
        dsimp only
        have es := F.2.1
        have eh := F.2.2.1
        rw [es, eh]
        refine wpAny_bind (slice_wp hz ?_)
        intro t1 tk1
        refine wpAny_bind (m := forIn [0] _ _) ?_
        rw [List.forIn_cons]
        refine wpAny_bind (wpAny_bind (group_wp rfl F (by omega) hz ?_))
        intro t2 tk2
        refine wpAny_pure ?_
        dsimp only
        rw [List.forIn_nil]
        refine wpAny_pure (wpAny_pure ?_)
        refine ⟨tk2, rfl, rfl, ?_, h5, ?_, xs ++ [(x.cps.extract la p).toList, (x.cps.extract p e).toList], ?_, .inl ⟨rfl, ?_, ?_⟩⟩
        · show (e == p) = false
          rw [beq_eq_false_iff_ne]; omega
        · simp only [Array.size_push]; omega
        · simp only [Array.toList_push, List.append_assoc, List.map_append, List.map_cons, List.map_nil]
          exact strsAppend hxs (.cons _ _ (.cons _ _ .nil))
        · simp only [List.length_cons] at hlen
          show x.cps.size - e < rest.length
          omega
        · rw [← hsp, spl_next h3 h4 h5 h6 h7, List.append_assoc]; rfl
    · simp only [Bool.not_true, Bool.false_eq_true, if_false]
      exact wpAny_pure ⟨tk, rfl, rfl, rfl, hst, hos, xs, hxs, .inr ⟨rfl, hsp⟩⟩
  · rintro ⟨out, st0, la, mu, n, ov⟩ s' ⟨tk, rfl, hla, hmu, hst, hos, xs, hxs, hor⟩
    dsimp only at hla hmu hst hos hxs hor ⊢
    subst hla
    rcases hor with ⟨_, hlen, _⟩ | ⟨rfl, hsp⟩
    · simp at hlen
    · simp only [Bool.not_true, Bool.false_eq_true, if_false]
      refine wpAny_bind (slice_wp hz ?_)
      intro t1 tk1
      refine wpAny_bind (wpAny_newObj_type ?_ ?_)
      · refine wpAny_pure ⟨_, rfl, ?_⟩
        refine h _ tk1 ?_
        rw [Array.toList_push, ← hsp, List.map_append]
        exact strsAppend hxs (.cons _ _ .nil)
      · show ((out.push _).toList.toArray).size ≤ sizeLine
        simp only [Array.toArray_toList, Array.size_push]
        rw [sizeLine_eq]; omega
  · refine ⟨s.toks, rfl, rfl, rfl, Nat.zero_le _, by simp, [], .nil, .inl ⟨rfl, ?_, by simp⟩⟩
    show x.cps.size - 0 < (List.range (2 * x.cps.size + 3)).length
    rw [List.length_range]; omega
end
end Mine
end

section -- SreU
open PySem PySem.W PyProof.Rows
set_option maxRecDepth 100000
namespace Mine
open PySem.Builtin
theorem slot_split : Slot "re.Pattern" "split" "re.Pattern.split" :=
  .of (owner := "re.Pattern") (n := "split") (by rw [typeLookup_type, builtinLookup_eq_fast]; kernel_rfl) (by decide +kernel) (by decide +kernel) (by decide +kernel)
    (by first | exact .inl (by decide +kernel) | exact .inr (by decide +kernel)) (by rw [isSubtype_type]; kernel_rfl)
theorem type_split : typeOf (.builtin "re.Pattern.split") = pure (.type "method_descriptor") := by show builtinType _ = _; rw [builtinType_eq_fast]; kernel_rfl
theorem entry_split : entryFor table "re.Pattern.split" = some Builtin.«re.Pattern.split» := entryFor_of_tree (by kernel_rfl)
theorem args_split (a b : Value) : argsOk "re.Pattern.split" ⟨[a, b], []⟩ := by unfold argsOk; kernel_rfl
theorem plain_pattern : PlainAttrs "re.Pattern" where
  ga := ⟨"object.__getattribute__", by rw [typeLookup_type, builtinLookup_eq_fast]; kernel_rfl, by decide +kernel⟩
  noGetattr := by rw [typeLookup_type, builtinLookup_eq_fast]; kernel_rfl
section
variable {prog : Program} {w : World} {A : Around} {E : Value → Shared → Prop} {s : Shared}
theorem getMethod_split {pl : Sem Bool} {Q : Value × List Value → Shared → Prop} (hp : s.heap.get? 36 = some patObj) (h : Q (.builtin "re.Pattern.split", [.ref 36]) s) :
    wpAny (model prog w) A (getMethod (.ref 36) (Str.ofString "split") pl) Q E s :=
  getMethod_builtin ⟨_, hp, rfl⟩ plain_pattern slot_split type_split (fun a e => by cases e; exact ⟨_, hp, rfl⟩) h
theorem call_split {x : Str} {t : Tok} {Q : Value → Shared → Prop} (hp : s.heap.get? 36 = some patObj) (hc : s.heap.get? 35 = some codeObj) (hx : x.length ≤ 2000000)
    (h : ∀ (us : List Value) tk, StrsAre us ((spl [] false x.cps.toList).map strOf) → Q (.ref s.heap.objs.size) { s with heap := s.heap.push { cls := .type "list", data := .seq us.toArray }, toks := tk }) :
    wpAny (model prog w) A (call (.builtin "re.Pattern.split") [.ref 36, .str x t]) Q E s :=
  wpAny_call_entry slot_split ⟨_, hp, rfl⟩ entry_split (split_tree hp hc hx h) (args_split _ _)
end
end Mine
end

section -- IntC
open PySem PySem.W PySem.Calls PySem.NumText PyProof.Rows
set_option maxRecDepth 100000
set_option maxHeartbeats 1000000
namespace Mine

section
variable {prog : Program} {w : World} {A : Around} {E : Value → Shared → Prop} {s : Shared}
theorem fromText_bad {x : Str} {t : Tok} {text : List Nat} {Q : Value → Shared → Prop} (hh : A.handled = none) (hz : (reprText x).length ≤ sizeLine)
    (hs : (text.takeWhile (· != 0)).length ≤ 640) (hr : (int_private% "readNumeral") 0 10 (text.takeWhile (· != 0)) = (int_private% "Numeral.invalid"))
    (h : ∀ h' tk e, Heap.NewExc s.heap h' e "ValueError" → E (.ref e) { s with heap := h', toks := tk }) :
    wpC (model prog w) A ((int_private% "intFromText") (.str x t) text 10) Q E s := by
  show wpC (model prog w) A (if (text.takeWhile (· != 0)).length ≤ 640 then _ else _) Q E s
  rw [if_pos hs]
  refine wpC_bind (wpC_pure ?_)
  dsimp only
  rw [hr]
  dsimp only
  refine wpC_bind (wpC_of_any (wpAny_of_eq (a := none) rfl ?_))
  rw [if_neg (by simp)]
  refine wpC_bind (wpC_of_any (wpAny_rule ?_))
  refine wpC_bind (wpC_of_any (wpAny_of_eq (a := none) rfl ?_))
  try dsimp only
  refine wpC_bind (wpC_of_any (wpAny_pyRepr_str ?_ hz))
  try dsimp only
  refine wpC_bind (wpC_of_any (wpAny_mkStr ?_ ?_))
  · refine wpC_bind (wpC_of_any (wpAny_newExc_plain plainExc_ValueError ?_))
    intro h' e hm
    refine wpC_bind (wpC_mark ?_)
    refine wpC_of_any (wpAny_raiseNew_none hh ?_)
    exact h h' _ e hm.newExc
  · show ((Str.ofString _).cps ++ (reprText x).cps.extract 0 200).size ≤ sizeLine
    rw [Array.size_append, Array.size_extract]
    have e : (Str.ofString (toString "invalid literal for int() with base " ++ toString 10 ++ toString ": ")).cps.size = 40 := by decide +kernel
    have := sizeLine_eq
    omega

theorem codeC_builtin {R : Result → Shared → Prop} {id : String} {args : Args} {b : Builtin} (hb : entryFor table id = some b)
    (h : wpC (model prog w) (A.under (.builtin id args)) (b args)
      (fun fin s' => match fin with | .done f => R (.ok f) s' | .again c' => c'.quiet = true ∧ codeC (model prog w) A c' R s') (fun e s' => R (.error e) s') s) :
    codeC (model prog w) A (.builtin id args) R s := by
  refine codeC_of_tree ?_
  show wpC _ _ (match entryFor table id with | some b => b args | none => unsupported ((withoutEnding? id "#data").getD id)) _ _ s
  rw [hb]; exact h

theorem typeCall_int_2 (a b : Value) : checkTypeCall "int" ⟨[a, b], []⟩ = pure () := by kernel_rfl
theorem newCall_int_2 (a b : Value) : checkBuiltinCall "int.__new__" ⟨[.type "int", a, b], []⟩ = pure () := by kernel_rfl

theorem intNew_bad {x : Str} {t u : Tok} {Q : Fin → Shared → Prop} (hh : A.handled = none) (hz : (reprText x).length ≤ sizeLine)
    (hs : (numSeenOf x).length ≤ 640) (hr : (int_private% "readNumeral") 0 10 (numSeenOf x) = (int_private% "Numeral.invalid"))
    (h : ∀ h' tk e, Heap.NewExc s.heap h' e "ValueError" → E (.ref e) { s with heap := h', toks := tk }) :
    wpC (model prog w) A (Builtin.«int.__new__» ⟨[.type "int", .str x t, .int 10 u], []⟩) Q E s := by
  unfold Builtin.«int.__new__»
  dsimp only
  refine wpC_bind (wpC_of_any (wpAny_of_eq (a := true) rfl ?_))
  rw [if_neg (by simp)]
  refine wpC_bind (wpC_of_any (wpAny_of_eq F.conv_sub_int ?_))
  rw [if_neg (by simp)]
  refine wpC_bind (wpC_of_any (wpAny_of_eq F.madeHere_int ?_))
  rw [if_neg (by simp)]
  rw [if_neg (by simp)]
  refine wpC_bind (wpC_of_any (wpAny_of_eq (a := PUnit.unit) rfl ?_))
  show wpC _ _ (Builtin.Int.intIndex "int.__new__" (.int 10 u) >>= _) _ _ _
  refine wpC_bind (wpC_of_any (wpAny_of_eq (a := 10) rfl ?_))
  rw [if_neg (by decide)]
  refine wpC_bind (wpC_of_any (wpAny_of_eq (a := some (numTextOf x)) rfl ?_))
  dsimp only
  exact wpC_bind (wpC_mono (fromText_bad (Q := fun _ _ => False) hh hz hs hr h) (fun _ _ hf => hf.elim) fun _ _ x => x)

theorem intCall_bad {x : Str} {t u : Tok} {Q : Value → Shared → Prop} (hh : A.handled = none) (hz : (reprText x).length ≤ sizeLine)
    (hs : (numSeenOf x).length ≤ 640) (hr : (int_private% "readNumeral") 0 10 (numSeenOf x) = (int_private% "Numeral.invalid"))
    (h : ∀ h' tk e, Heap.NewExc s.heap h' e "ValueError" → E (.ref e) { s with heap := h', toks := tk }) :
    wpC (model prog w) A (call (.type "int") [.str x t, .int 10 u]) Q E s := by
  refine wpC_call (codeC_of_tree ?_)
  show wpC _ _ (callAny (.type "int") _) _ _ _
  refine wpC_pure ⟨Code.quiet_builtin _ (by decide +kernel), codeC_builtin F.entry_type_call ?_⟩
  rw [Around.under_plain (weight_type_call_type "int" _ []) (units_type_call_type "int" _ [])]
  unfold Builtin.«type.__call__»
  dsimp only
  rw [if_neg (by rw [F.called_int.notType]; exact Bool.false_ne_true)]
  rw [if_neg (by have := F.called_int.canCreate; simp only [this]; exact Bool.false_ne_true)]
  refine wpC_bind (wpC_of_any (wpAny_of_eq (typeCall_int_2 _ _) ?_))
  refine wpC_bind (wpC_of_any (wpAny_of_eq F.mro_int ?_))
  rw [if_neg (by simp)]
  refine wpC_bind (wpC_of_any (wpAny_of_eq F.called_int.made ?_))
  dsimp only
  refine wpC_bind (wpC_of_any (wpAny_of_eq (a := Value.builtin "int.__new__") rfl ?_))
  refine wpC_bind (wpC_holding (wpC_call (codeC_mono (R := fun r s' => match r with | .ok _ => False | .error e => E e s') ?_ ?_)))
  · refine codeC_of_tree ?_
    show wpC _ A.in1.in1 (do checkBuiltinCall _ _; again (.builtin _ _)) _ _ s
    refine wpC_bind (wpC_of_any (wpAny_of_eq (newCall_int_2 _ _) (wpC_pure (And.intro (plainId_quiet F.called_int.plain _) (codeC_builtin F.entry_int_new ?_)))))
    rw [Around.under_plainId F.called_int.plain]
    exact intNew_bad hh hz hs hr h
  · intro r s' hr'
    cases r with
    | ok f => exact hr'.elim
    | error e => exact hr'
end
end Mine
end

section -- IntV
open PySem PySem.W PySem.Calls PySem.NumText PyProof.Rows
set_option maxRecDepth 100000
set_option maxHeartbeats 1000000
namespace Mine

set_option maxHeartbeats 4000000 in
theorem gives_text2 {x : PySem.Str} {t u : Tok} {n : Int} (hl : x.length ≤ 640) (hn : PySem.intText? x = some n) : Gives (Builtin.«int.__new__» ⟨[.type "int", .str x t, .int 10 u], []⟩) (.int n) :=
  .of_wp fun M A E s Q h => by
    have hs : (numSeenOf x).length ≤ 640 := Nat.le_trans (seen_length x) hl
    have hr : (int_private% "readNumeral") 0 10 (numSeenOf x) = (int_private% "Numeral.value") n ∧ ((numSeenOf x).length == (numTextOf x).length) = true := by
      rcases read0 x hs with ⟨m, h1, h2, h3⟩ | ⟨h1, _⟩
      · rw [hn] at h1
        injection h1 with h1
        subst h1
        exact ⟨h3, h2⟩
      · rw [hn] at h1
        cases h1
    unfold Builtin.«int.__new__»
    dsimp only
    refine wpAny_bind (wpAny_of_eq (a := true) rfl ?_)
    rw [if_neg (by simp)]
    refine wpAny_bind (wpAny_of_eq F.conv_sub_int ?_)
    rw [if_neg (by simp)]
    refine wpAny_bind (wpAny_of_eq F.madeHere_int ?_)
    rw [if_neg (by simp)]
    rw [if_neg (by simp)]
    refine wpAny_bind (wpAny_of_eq (a := PUnit.unit) rfl ?_)
    show wpAny _ _ (Builtin.Int.intIndex "int.__new__" (.int 10 u) >>= _) _ _ _
    refine wpAny_bind (wpAny_of_eq (a := 10) rfl ?_)
    rw [if_neg (by decide)]
    refine wpAny_bind (wpAny_of_eq (a := some (numTextOf x)) rfl ?_)
    dsimp only
    refine wpAny_bind (KIN.wp_text hs hr.1 hr.2 ?_)
    rw [if_pos (by decide)]
    exact wpAny_pure ⟨_, rfl, h⟩
theorem argsInit3 (obj a b : Value) : argsOk "object.__init__" ⟨[obj, a, b], []⟩ := by kernel_rfl

section
variable {prog : Program} {w : World} {A : Around} {E : Value → Shared → Prop} {s : Shared} {Q : Value → Shared → Prop} {x : PySem.Str} {t u : Tok} {n : Int}
theorem intCall_text (hn : PySem.intText? x = some n) (hl : x.length ≤ 640) (h : Q (.int n s.toks) { s with toks := s.toks + 1 }) :
    wpAny (model prog w) A (call (.type "int") [.str x t, .int 10 u]) Q E s :=
  callType_new F.called_int F.newNe_int (typeCall_int_2 _ _) (newCall_int_2 _ _) (fun obj => argsInit3 obj _ _) F.entry_int_new (gives_text2 hl hn).meets (show (Made.int n).post _ s from ⟨rfl, h⟩)
end

/-- a word whose first sign is no figure, no blank, no mark is no numeral -/
theorem word_bad {x : PySem.Str} {c : Nat} {cs : List Nat} (hx : x.cps.toList = c :: cs) (h : ∀ d ∈ c :: cs, 65 ≤ d ∧ d < 123 ∧ d ≠ 95) :
    numSeenOf x = c :: cs ∧ (int_private% "readNumeral") 0 10 (numSeenOf x) = (int_private% "Numeral.invalid") := by
  have e1 : numTextOf x = x.cps.toList := by
    refine if_pos ?_
    rw [← Array.all_toList, List.all_eq_true]
    intro c hc
    rw [hx] at hc
    have := h c hc
    exact decide_eq_true (by omega)
  have e2 : numSeenOf x = c :: cs := by
    show (numTextOf x).takeWhile _ = _
    rw [e1, hx]
    refine takeWhile_all fun c hc => ?_
    have := h c hc
    exact bne_iff_ne.mpr (by omega)
  refine ⟨e2, ?_⟩
  rw [e2, readNumeral_ten]
  have hc := h c (List.mem_cons_self ..)
  have e3 : core (c :: cs) = c :: cs := by
    unfold core
    rw [dropWhile_of (by omega), sign_of (by omega) (by omega)]
    have : ∀ l : List Nat, (∀ d ∈ l, 65 ≤ d) → l.dropWhile blank = l := by
      intro l hl
      cases l with
      | nil => rfl
      | cons d l => exact dropWhile_of (by have := hl d (List.mem_cons_self ..); omega)
    rw [this _ (fun d hd => (h d (List.mem_reverse.mp hd)).1), List.reverse_reverse]
  rw [e3]
  have e4 : digits? 10 (c :: cs) = none := by
    unfold digits?
    rw [List.foldlM_cons]
    have : NumText.step 10 ((#[] : Array Nat), false) c = none := by
      unfold NumText.step
      rw [if_neg (by rw [beq_iff_eq]; omega)]
      unfold digit?
      rw [if_neg (by simp; omega)]
      split
      · rename_i hd
        split at hd
        · injection hd with hd; subst hd
          exact if_neg (by rename_i q; simp at q; omega)
        · split at hd
          · injection hd with hd; subst hd
            exact if_neg (by rename_i q; simp at q; omega)
          · cases hd
      · rfl
    rw [this]; rfl
  rw [e4]
  exact judge_none
end Mine
end

section -- CvP
open PySem PySem.W PyProof.Rows PySem.NumText
namespace Mine
set_option maxRecDepth 100000
set_option maxHeartbeats 1000000

inductive Piece : List Nat → List It → Prop
  | nil : Piece [] []
  | sep {c : Nat} : isSep c = true → Piece [c] []
  | num {n : Nat} : n < 100 → Piece (digs n) [.n 100, .n n]
  | word {c : Nat} {p : List Nat} : (∀ d ∈ c :: p, 65 ≤ d ∧ d ≤ 80) → Piece (c :: p) [.n 0, .t (c :: p)]
  | dev : Piece [100, 101, 118] [.n 10, .t [100, 101, 118]]
  | pl : Piece [112, 108] [.n 200, .t [112, 108]]

theorem occ_far {c : Nat} {p : List Nat} (h : c ≠ 46 ∧ c ≠ 95 ∧ c ≠ 43 ∧ c ≠ 45) : (Builtin.Str.occurrences (Str.ofString "._+-") (strOf (c :: p)) 0 (Str.ofString "._+-").length 1).isEmpty = true := by
  by_cases q : (Builtin.Str.occurrences (Str.ofString "._+-") (strOf (c :: p)) 0 (Str.ofString "._+-").length 1).isEmpty = true
  · exact q
  · exfalso
    rw [Bool.not_eq_true] at q
    have h2 := (StrLaws.found_iff (Str.ofString "._+-") (strOf (c :: p))).mp (by rw [q]; rfl)
    obtain ⟨i, hi, hs⟩ := h2
    have h4 : (Str.ofString "._+-").length = 4 := by decide +kernel
    have h5 : (strOf (c :: p)).length = p.length + 1 := by simp [strOf, Str.length]
    rw [h4, h5] at hi
    have e1 : (Str.ofString "._+-").cps.extract i (i + (strOf (c :: p)).length) = (strOf (c :: p)).cps := by
      unfold Builtin.Str.subAt at hs
      exact eq_of_beq hs
    have e2 : (Str.ofString "._+-").cps[i]? = some c := by
      have h6 := congrArg (fun a : Array Nat => a[0]?) e1
      simp only [strOf, Array.getElem?_extract] at h6
      rw [if_pos (by rw [show (Str.ofString "._+-").cps.size = 4 from h4, show ({ cps := (c :: p).toArray } : Str).length = p.length + 1 from h5]; omega)] at h6
      simpa using h6
    have e3 : (Str.ofString "._+-").cps = #[46, 95, 43, 45] := by decide +kernel
    rw [e3] at e2
    have : i = 0 ∨ i = 1 ∨ i = 2 ∨ i = 3 := by omega
    rcases this with rfl | rfl | rfl | rfl <;> simp at e2 <;> omega

theorem occ_nil : (Builtin.Str.occurrences (Str.ofString "._+-") (strOf []) 0 (Str.ofString "._+-").length 1).isEmpty = false := by decide +kernel
theorem occ_sep {c : Nat} (h : isSep c = true) : (Builtin.Str.occurrences (Str.ofString "._+-") (strOf [c]) 0 (Str.ofString "._+-").length 1).isEmpty = false := by
  have h1 := StrLaws.found_one (Str.ofString "._+-") c
  have h2 : c ∈ (Str.ofString "._+-").cps.toList := by
    have e3 : (Str.ofString "._+-").cps.toList = [46, 95, 43, 45] := by decide +kernel
    rw [e3]
    unfold isSep at h
    simp only [Bool.or_eq_true, beq_iff_eq] at h
    simp; omega
  rw [decide_eq_true h2] at h1
  show (Builtin.Str.occurrences (Str.ofString "._+-") ⟨#[c]⟩ 0 (Str.ofString "._+-").length 1).isEmpty = false
  simpa using h1

theorem digs_ne (n : Nat) : ∃ c r, digs n = c :: r ∧ c = 48 + (if n < 10 then n else n / 10) := by
  unfold digs
  split
  · exact ⟨_, _, rfl, rfl⟩
  · exact ⟨_, _, rfl, rfl⟩
theorem digs_all {n : Nat} (h : n < 100) : AllDigits (digs n) := by
  intro c hc
  unfold digs at hc
  split at hc
  · simp at hc; omega
  · simp at hc; omega
theorem digs_val {n : Nat} (_h : n < 100) : digitsVal (digs n) = n := by
  unfold digs digitsVal
  split
  · simp
  · simp; omega
theorem digs_reads {n : Nat} (h : n < 100) : PySem.intText? (strOf (digs n)) = some (n : Int) := by
  have h1 := intText_digits (x := strOf (digs n)) (by simpa [strOf] using digs_all h) (by
    obtain ⟨c, r, e, _⟩ := digs_ne n
    simp [strOf, e]) (by
    have : (digs n).length ≤ 2 := by unfold digs; split <;> simp
    simp [strOf, Str.length]; omega)
  rw [h1]
  have : (strOf (digs n)).cps.toList = digs n := by simp [strOf]
  rw [this, digs_val h]
theorem occ_num {n : Nat} (h : n < 100) : (Builtin.Str.occurrences (Str.ofString "._+-") (strOf (digs n)) 0 (Str.ofString "._+-").length 1).isEmpty = true := by
  obtain ⟨c, r, e, hc⟩ := digs_ne n
  rw [e]
  refine occ_far ?_
  split at hc <;> omega
theorem word_repr {x : Str} {c : Nat} {r : List Nat} (hx : x.cps.toList = c :: r) (h : ∀ d ∈ c :: r, 65 ≤ d ∧ d < 123 ∧ d ≠ 95) (hl : (c :: r).length ≤ 600) : (reprText x).length ≤ sizeLine := by
  have h1 : x.length = (c :: r).length := by rw [← hx]; simp [Str.length]
  have h2 := StrLaws.reprText_len x (by rw [hx]; intro d hd; have := h d hd; omega)
  rw [h1] at h2
  have := sizeLine_eq
  omega
theorem piece_len {p : List Nat} {l : List It} (h : Piece p l) : l.length ≤ 2 := by cases h <;> simp
theorem pieces_len {f : List Nat → List It} : ∀ {ps : List (List Nat)}, (∀ p ∈ ps, Piece p (f p)) → (ps.flatMap f).length ≤ 2 * ps.length
  | [], _ => by simp
  | p :: ps, h => by
    have h1 := piece_len (h p (.head _))
    have h2 := pieces_len (ps := ps) fun q hq => h q (.tail _ hq)
    simp only [List.flatMap_cons, List.length_append, List.length_cons]
    omega
end Mine
end

section -- AsgC
open PySem PySem.W PyProof.Rows
namespace Mine
section
variable {M : Model} {A : Around} {E : Value → Shared → Prop} {s : Shared} {env : Env}
theorem asgC_raise {x : Str} {pos' pos : Pos} {value : Expr} {Q : Flow → Shared → Prop} (h : wpC M A (eval value env) (fun _ _ => False) E s)
    (hs : swapsWith value (some (.Name x pos')) pos.line env = pure false := by rfl) : wpC M A (exec (.Assign [.Name x pos'] value pos) env) Q E s := by
  rw [exec_Assign_Name env x pos' value pos hs]
  exact wpC_bind (wpC_of_any (wpAny_standAt (wpC_bind (wpC_mono h (fun _ _ q => q.elim) fun _ _ q => q))))
theorem CallC {func : Expr} {args : List Expr} {pos : Pos} {Q : Value → Shared → Prop}
    (h : wpAny M A (eval func env) (fun f s₁ => wpC M A (callWith pos f [] (backTo pos (starEach args env)) []) Q E s₁) E s)
    (he : eval (.Call func args [] pos) env = (do callWith pos (← eval func env) [] (backTo pos (starEach args env)) (backToKw pos (keywordEach [] env))) := by rfl) :
    wpC M A (eval (.Call func args [] pos) env) Q E s := by
  rw [he]; exact wpC_bind (wpC_of_any h)
theorem callWithC_type {pos : Pos} {T : String} {first : List Value} {args : List (Bool × Sem Value)} {Q : Value → Shared → Prop}
    (hplain : args.any (·.1) = false)
    (h : wpC M A (evalArgs (.type T) true args []) (fun a s₁ => wpC M A (call (.type T) (first ++ a.pos) a.kw) Q E s₁) E s) :
    wpC M A (callWith pos (.type T) first args []) Q E s := by
  unfold callWith
  refine wpC_bind (wpC_holding (wpC_mono h (fun a s₁ h₁ => wpC_bind (wpC_of_any (wpAny_standAt ?_))) fun _ _ x => x))
  simp only [hplain, List.any_nil, Bool.or_false]
  refine wpC_bind (wpC_pure ?_)
  exact wpC_bind (wpC_mono h₁ (fun r s₂ hr => wpC_of_any (wpAny_bind (wpAny_holding (wpAny_point (wpAny_pure hr))))) fun _ _ x => x)
theorem spliced_consC {x : Sem Value} {rest : List (Bool × Sem Value)} {Q : List Value → Shared → Prop}
    (h : wpC M A x (fun v s₁ => wpC M A (spliced rest) (fun vs s₂ => Q (v :: vs) s₂) E s₁) E s) : wpC M A (spliced ((false, x) :: rest)) Q E s := by
  rw [spliced]
  refine wpC_bind (wpC_mono h (fun v s₁ h₁ => ?_) fun _ _ x => x)
  simp only [Bool.false_eq_true, if_false]
  exact wpC_bind (wpC_pure (wpC_bind (wpC_holding (wpC_mono h₁ (fun vs s₂ h₂ => wpC_pure h₂) fun _ _ x => x))))
theorem evalArgs_plainC {f : Value} {x : Sem Value} {rest : List (Bool × Sem Value)} {Q : Args → Shared → Prop}
    (h : wpC M A (spliced ((false, x) :: rest)) (fun vs s' => Q ⟨vs, []⟩ s') E s) : wpC M A (evalArgs f true ((false, x) :: rest) []) Q E s := by
  unfold evalArgs
  show wpC M A (spliced ((false, x) :: rest) >>= _) Q E s
  refine wpC_bind (wpC_mono h (fun vs s' h' => ?_) fun _ _ x => x)
  refine wpC_holding ?_
  exact wpC_bind (wpC_pure (wpC_bind (wpC_pure (wpC_pure h'))))
end
end Mine
end

section -- LoopC
open PySem PySem.W PyProof.Rows
namespace Mine

section
variable {prog : Program} {w : World} {A : Around} {s : Shared} {env : Env} {h₀ : Heap}

theorem codeC_forLoop {R : Result → Shared → Prop} {target : Expr} {it : Value} {body : List Stmt} (I : Nat → Shared → Prop)
    (turn : ∀ n s, I n s → wpAny (model prog w) A (pyNext it) (fun r s₁ => match r with
      | none => R (.ok .next) s₁
      | some v => wpAny (model prog w) A (assign target env v) (fun _ s₂ => wpC (model prog w) A (execs body env) (fun f s₃ => match f with
          | .next | .cont => ∃ m, m < n ∧ I m s₃
          | .brk => R (.ok .next) s₃
          | .ret v => R (.ok (.ret v)) s₃) (fun _ _ => False) s₂) (fun _ _ => False) s₁) (fun _ _ => False) s)
    (n : Nat) (h : I n s) (ht : ∀ v, letOwnedTupleGo target it v = pure () := by intro _; rfl) : codeC (model prog w) A (.forLoop target it body [] env) R s := by
  refine codeC_loop rfl I (fun n s hI => ?_) n h
  show wpC _ _ ((forTurn target it body [] env).onRaise (fun x => do noteFrame x env; theTreesLotGoes x)) _ _ s
  refine wpC_onRaise (wpC_mono (E := fun _ _ => False) ?_ (fun _ _ q => q) (fun _ _ q => q.elim))
  simp only [forTurn]
  refine wpC_bind (wpC_of_any (wpAny_standAt (wpC_bind (wpC_onRaise (wpC_of_any (wpAny_mono (turn n s hI) (fun r s₁ h₁ => ?_) fun _ _ h' => h'.elim))))))
  cases r with
  | none => exact wpC_pure (.inr ⟨rfl, codeC_of_any (codeAny_block (wpAny_execs_nil h₁))⟩)
  | some v =>
    refine wpC_bind ?_
    rw [ht v]
    refine wpC_pure (wpC_bind (wpC_of_any (wpAny_mono h₁ (fun _ s₂ h₂ => wpC_bind (wpC_mono h₂ (fun f s₃ h₃ => ?_) fun _ _ h' => h')) fun _ _ h' => h')))
    cases f with
    | next => exact wpC_pure (.inl ⟨rfl, h₃⟩)
    | cont => exact wpC_pure (.inl ⟨rfl, h₃⟩)
    | brk => exact wpC_pure h₃
    | ret v => exact wpC_pure h₃

def LoopAtC (prog : Program) (w : World) (A : Around) (h₀ : Heap) (env : Env) (x : Str) (body : List Stmt) (Q : Flow → Shared → Prop) (it : Value) (s₂ : Shared) : Prop :=
  ∃ (I : Addr) (fp wr : List Addr) (n : Nat) (P : Nat → Value → Prop) (St : Nat → Heap → Prop) (m : Str → Option Value) (news : List (Addr × Obj)) (J : Nat → (Str → Option Value) → List (Addr × Obj) → Prop),
    it = .ref I ∧ Walks prog w A I fp wr n P St ∧ env.locals ∉ fp ∧ (∀ b ∈ wr, h₀.get? b = none) ∧ (∀ p ∈ news, p.1 ∉ wr) ∧ St 0 s₂.heap ∧ Fr h₀ env.locals s₂.heap m ∧ News h₀ env.locals s₂.heap news ∧ J 0 m news ∧
    (∀ i v m₁ news₁ s₁ own, (∃ h tk, s₁ = { s₂ with heap := h, toks := tk }) → i < n → P i v → J i m₁ news₁ → (∀ p ∈ news₁, p.1 ∉ wr) → (∀ p ∈ own, p.1 ∈ fp) → (∀ p ∈ own, s₁.heap.get? p.1 = some p.2) → (∀ b ∈ fp, h₀.get? b = none → ∀ o, s₁.heap.get? b = some o → (b, o) ∈ own) → St (i + 1) s₁.heap →
      Fr h₀ env.locals s₁.heap (fun y => if y = x then some v else m₁ y) → News h₀ env.locals s₁.heap (own ++ news₁) →
      wpC (model prog w) A (execs body env) (LoopStepV h₀ env.locals wr own (J (i + 1)) s₁ (fun v s' => Q (.ret v) s') fun s' => Q .next s') (fun _ _ => False) s₁) ∧
    ∀ h' tk m' news', Fr h₀ env.locals h' m' → News h₀ env.locals h' news' → (∀ p ∈ news', p.1 ∉ wr) → J n m' news' → Q .next { s₂ with heap := h', toks := tk }

theorem forLoopC {R : Result → Shared → Prop} {x : Str} {px : Pos} {body : List Stmt} {Q : Flow → Shared → Prop} {it : Value} (hx : env.kindOf x = some .local)
    (hp : (env.scope.kind == .class || (env.scope.kind == .module && env.locals != env.globals)) = false)
    (h : LoopAtC prog w A h₀ env x body Q it s) (hR : ∀ f s', Q f s' → R (.ok f) s') :
    codeC (model prog w) A (.forLoop (.Name x px) it body [] env) R s := by
  obtain ⟨I, fp, wr, n, P, St, m, news, J, rfl, W, hLf, hwr, hnw, hst, F, N, h0, step, hQ⟩ := h
  have hLw : env.locals ∉ wr := fun h => hLf (W.sub _ h)
  have old : ∀ b o, h₀.get? b = some o → b ∉ wr := fun b o e hb => by rw [hwr b hb] at e; cases e
  refine codeC_forLoop
    (fun k s' => ∃ h' tk m' news' i, s' = { s with heap := h', toks := tk } ∧ St i h' ∧ Fr h₀ env.locals h' m' ∧ News h₀ env.locals h' news' ∧ (∀ p ∈ news', p.1 ∉ wr) ∧ J i m' news' ∧ i ≤ n ∧ k = n + 1 - i) ?_ (n + 1)
    ⟨s.heap, s.toks, m, news, 0, rfl, hst, F, N, hnw, h0, Nat.zero_le _, rfl⟩
  rintro k s' ⟨h', tk, m', news', i, rfl, hst', F', N', hnw', hJ, hi, rfl⟩
  have next : ∀ h₁ : Heap, (∀ b o, b ∉ wr → h'.get? b = some o → h₁.get? b = some o) → Fr h₀ env.locals h₁ m' ∧ News h₀ env.locals h₁ news' := fun h₁ hk₁ =>
    ⟨⟨F'.ns.at' fun o e => hk₁ _ o hLw e, fun b o e => hk₁ b o (old b o e) (F'.keep b o e), F'.above⟩, fun p hp => ⟨hk₁ _ _ (hnw' p hp) (N' p hp).1, (N' p hp).2⟩⟩
  by_cases hlt : i < n
  · refine W.item i _ _ _ hlt hst' fun v h₁ tk₁ hP hst₁ hk₁ => ?_
    obtain ⟨F₁, N₁⟩ := next h₁ hk₁
    refine wpAny_assign_Name (wpAny_storeName_local hx F₁.ns (fun h₂ hn₂ hs₂ => ?_) hp)
    have F₂ := F₁.set hn₂ hs₂
    have Nown : News h₀ env.locals h₂ (ownOf h₀ fp h₂) := news_ownOf hLf
    have hst₂ : St (i + 1) h₂ := W.frame _ _ _ hst₁ fun b hb o e => (hs₂.2 b fun q => hLf (q ▸ hb)).trans e
    have again : ∀ s₃, LoopStepU h₀ env.locals wr (ownOf h₀ fp h₂) (J (i + 1)) { s with heap := h₂, toks := tk₁ + 1 } .next s₃ →
        ∃ m, m < n + 1 - i ∧ ∃ h' tk m' news' i, s₃ = { s with heap := h', toks := tk } ∧ St i h' ∧ Fr h₀ env.locals h' m' ∧ News h₀ env.locals h' news' ∧ (∀ p ∈ news', p.1 ∉ wr) ∧ J i m' news' ∧ i ≤ n ∧ m = n + 1 - i := by
      rintro s₃ ⟨_, h₃', tk₃, m₂, news₂, rfl, F₃, N₃, ha₃, hJ₃⟩
      refine ⟨n + 1 - (i + 1), by omega, h₃', tk₃, m₂, news₂, i + 1, rfl, ?_, F₃, N₃.right, ha₃, hJ₃, hlt, rfl⟩
      refine W.frame _ _ _ hst₁ fun b hb o e => ?_
      have e₂ : h₂.get? b = some o := (hs₂.2 b fun q => hLf (q ▸ hb)).trans e
      cases hn : h₀.get? b with
      | some o₀ =>
        have : o₀ = o := by have := F₂.keep b o₀ hn; rw [e₂] at this; exact (Option.some.inj this).symm
        exact this ▸ F₃.keep b o₀ hn
      | none => exact (N₃ _ (List.mem_append_left _ (mem_ownOf hb hn e₂))).1
    refine wpC_mono (step i v m' news' _ (ownOf h₀ fp h₂) ⟨_, _, rfl⟩ hlt hP hJ hnw' ownOf_sub (fun p hp => (Nown p hp).1) (fun b hb hn o e => mem_ownOf hb hn e) hst₂ F₂ (Nown.append (N₁.set hs₂))) (fun f s₃ h₃ => ?_) fun _ _ e => e
    cases f with
    | ret v => exact hR _ _ h₃
    | brk => exact hR _ _ h₃
    | cont => exact again _ h₃
    | next => exact again _ h₃
  · have hin : i = n := by omega
    subst hin
    refine W.done _ _ _ hst' fun h₁ tk₁ hk₁ => hR _ _ ?_
    obtain ⟨F₁, N₁⟩ := next h₁ hk₁
    exact hQ h₁ tk₁ m' news' F₁ N₁ hnw' hJ

theorem For_invC {Q : Flow → Shared → Prop} {x : Str} {px pos : Pos} {iter : Expr} {body : List Stmt} (h₀ : Heap) (hx : env.kindOf x = some .local)
    (hp : (env.scope.kind == .class || (env.scope.kind == .module && env.locals != env.globals)) = false)
    (h : wpAny (model prog w) A (eval iter env) (fun xv s₁ => wpAny (model prog w) A (pyIter xv) (fun it s₂ => LoopAtC prog w A h₀ env x body Q it s₂) (fun _ _ => False) s₁) (fun _ _ => False) s)
    (hs : ∀ x, foldedSetIterable iter env x = pure x := by intro _; rfl) :
    wpC (model prog w) A (exec (.For (.Name x px) iter body [] pos) env) Q (fun _ _ => False) s := by
  refine wpC_For (wpAny_mono h (fun xv s₁ h₁ => wpAny_mono h₁ (fun it s₂ h₂ => ?_) fun _ _ e => e) fun _ _ e => e) hs
  exact forLoopC hx hp h₂ fun f s' q => q
end

section
variable {prog : Program} {w : World} {A : Around} {E : Value → Shared → Prop} {s : Shared} {env : Env} {h₀ : Heap} {x : Str} {body : List Stmt} {Q : Flow → Shared → Prop}

/-- a loop whose iterator is one object -/
theorem loop1C {I : Addr} {n : Nat} {P : Nat → Value → Prop} {St : Nat → Heap → Prop} {m₀ : Str → Option Value} {news : List (Addr × Obj)}
    (J : Nat → (Str → Option Value) → List (Addr × Obj) → Prop) (W : Walks prog w A I [I] [I] n P St)
    (hlive : ∀ i h, St i h → ∃ o, h.get? I = some o) (hLI : env.locals ≠ I) (hI : h₀.get? I = none) (hnI : ∀ p ∈ news, p.1 ≠ I)
    (hst : St 0 s.heap) (F : Fr h₀ env.locals s.heap m₀) (N : News h₀ env.locals s.heap news) (hj : J 0 m₀ news)
    (turn : ∀ o i v m₁ news₁ h tk, i < n → P i v → (∀ p ∈ news₁, p.1 ≠ I) → J i m₁ news₁ → Fr h₀ env.locals h (fun y => if y = x then some v else m₁ y) → News h₀ env.locals h ((I, o) :: news₁) →
      wpC (model prog w) A (execs body env) (StepP h₀ env.locals [(I, o)] (J (i + 1)) s Q) (fun _ _ => False) { s with heap := h, toks := tk })
    (done : ∀ m₁ news₁ h tk, J n m₁ news₁ → Fr h₀ env.locals h m₁ → News h₀ env.locals h news₁ → Q .next { s with heap := h, toks := tk }) :
    LoopAtC prog w A h₀ env x body Q (.ref I) s := by
  refine ⟨I, [I], [I], n, P, St, m₀, news, J, rfl, W, ?_, ?_, ?_, hst, F, N, hj, ?_, ?_⟩
  · simp [hLI]
  · intro b hb; rw [List.mem_singleton.mp hb]; exact hI
  · intro p hp hb; exact hnI p hp (List.mem_singleton.mp hb)
  · rintro i v m₁ news₁ s₁ own ⟨hh', tk', rfl⟩ hin hP hJ hoff hown hget hall hst' F₁ N₁
    obtain ⟨o, ho⟩ := hlive _ _ hst'
    have hmem : (I, o) ∈ own := hall I (by simp) hI o ho
    have hone : ∀ p ∈ own, p = (I, o) := fun p hp => by
      have h1 := List.mem_singleton.mp (hown p hp)
      have h2 := hget p hp
      rw [h1] at h2
      have h3 : o = p.2 := Option.some.inj (ho.symm.trans h2)
      exact Prod.ext h1 h3.symm
    have N₂ : News h₀ env.locals hh' ((I, o) :: news₁) := fun p hp => by
      rcases List.mem_cons.mp hp with rfl | hp
      · exact N₁ _ (List.mem_append_left _ hmem)
      · exact N₁ _ (List.mem_append_right _ hp)
    refine wpC_mono (turn o i v m₁ news₁ hh' tk' hin hP (fun p hp q => hoff p hp (by rw [q]; simp)) hJ F₁ N₂) (fun f s₂ p => ?_) fun _ _ e => e
    have fin : (∃ h' tk m' news', s₂ = { s with heap := h', toks := tk } ∧ Fr h₀ env.locals h' m' ∧ News h₀ env.locals h' ([(I, o)] ++ news') ∧ (∀ p ∈ news', ∀ q ∈ [(I, o)], p.1 ≠ q.1) ∧ J (i + 1) m' news') →
        LoopStepU h₀ env.locals [I] own (J (i + 1)) { s with heap := hh', toks := tk' } .next s₂ := by
      rintro ⟨h', tk, m', news', rfl, F', N', ha, hJ'⟩
      refine ⟨rfl, h', tk, m', news', rfl, F', fun p hp => ?_, fun p hp hb => ha p hp (I, o) (by simp) (List.mem_singleton.mp hb), hJ'⟩
      rcases List.mem_append.mp hp with hp | hp
      · rw [hone p hp]; exact N' _ (by simp)
      · exact N' p (List.mem_append_right _ hp)
    cases f with
    | ret v => exact .ret p
    | brk => exact .brk p
    | next => exact .next (fin p)
    | cont => exact .cont (fin p)
  · rintro h' tk m' news' F' N' _ hJ
    exact done m' news' h' tk hJ F' N'

/-- a loop over a list of the ledger, which the turns leave as it is -/
theorem loop2C {l : Addr} {vs : Array Value} {nn : Nat} {m₀ : Str → Option Value} {news : List (Addr × Obj)}
    (J : Nat → (Str → Option Value) → List (Addr × Obj) → Prop) (hh : A.handled = none)
    (hnl : ∀ p ∈ news, p.1 ≠ l)
    (F : Fr h₀ env.locals s.heap m₀) (N : News h₀ env.locals s.heap ((l, W.listOf vs nn) :: news)) (hj : J 0 m₀ news)
    (turn : ∀ I o ol i v m₁ news₁ h tk, vs[i]? = some v → l ≠ I → (∀ p ∈ news₁, p.1 ≠ I) → (∀ p ∈ news₁, p.1 ≠ l) → J i m₁ news₁ → Fr h₀ env.locals h (fun y => if y = x then some v else m₁ y) → News h₀ env.locals h ((I, o) :: (l, ol) :: news₁) →
      wpC (model prog w) A (execs body env) (StepP h₀ env.locals [(I, o), (l, ol)] (J (i + 1)) s Q) (fun _ _ => False) { s with heap := h, toks := tk })
    (done : ∀ m₁ news₁ h tk, J vs.size m₁ news₁ → Fr h₀ env.locals h m₁ → News h₀ env.locals h news₁ → Q .next { s with heap := h, toks := tk }) :
    wpAny (model prog w) A (pyIter (.ref l)) (fun it s₂ => LoopAtC prog w A h₀ env x body Q it s₂) E s := by
  have hl := N.get (.head _)
  have hls : s.heap.IsList l vs := ⟨_, hl, rfl, nn, rfl⟩
  refine wpAny_pyIter_list hls ?_
  have hlt : l < s.heap.objs.size := Heap.lt_size hl
  have hne : l ≠ s.heap.objs.size := Nat.ne_of_lt hlt
  have W := Walks.list (prog := prog) (w := w) hh s.heap.objs.size l hne vs
  have hLl : l ≠ env.locals := (N _ (.head _)).2.1
  have hl0 : h₀.get? l = none := (N _ (.head _)).2.2
  have hLI : env.locals ≠ s.heap.objs.size := Nat.ne_of_lt F.ns.lt
  have hI0 : h₀.get? s.heap.objs.size = none := next_is_new F
  -- the ledger is the rest, the list is told beside
  refine ⟨_, [s.heap.objs.size, l], [s.heap.objs.size], vs.size, _, _, m₀, news, fun i m₁ news₁ => (∀ p ∈ news₁, p.1 ≠ l) ∧ J i m₁ news₁, rfl, W, ?_, ?_, ?_, ⟨⟨_, Heap.get?_push_size _ rfl, rfl, rfl⟩, hls.at fun o e => Heap.get?_push_of_some _ e⟩, F.push _, (fun p hp => ⟨Heap.get?_push_of_some _ (N p (.tail _ hp)).1, (N p (.tail _ hp)).2⟩), ⟨hnl, hj⟩, ?_, ?_⟩
  · simp [hLI, Ne.symm hLl]
  · intro b hb; rw [List.mem_singleton.mp hb]; exact hI0
  · intro p hp hb
    exact absurd (Heap.lt_size (N p (.tail _ hp)).1) (by rw [List.mem_singleton.mp hb]; exact Nat.lt_irrefl _)
  · rintro i v m₁ news₁ s₁ own ⟨hh', tk', rfl⟩ hin hP ⟨hnl', hJ⟩ hoff hown hget hall hst' F₁ N₁
    obtain ⟨⟨o, ho, _⟩, hl'⟩ := hst'
    have hmem : (s.heap.objs.size, o) ∈ own := hall _ (by simp) hI0 o ho
    obtain ⟨ol, hol, _⟩ := hl'
    have hmeml : (l, ol) ∈ own := hall _ (by simp) hl0 ol hol
    have hone : ∀ p ∈ own, p = (s.heap.objs.size, o) ∨ p = (l, ol) := fun p hp => by
      have h2 := hget p hp
      rcases List.mem_cons.mp (hown p hp) with h1 | h1
      · left; rw [h1] at h2
        exact Prod.ext h1 (Option.some.inj (ho.symm.trans h2)).symm
      · right
        have h1 := List.mem_singleton.mp h1
        rw [h1] at h2
        exact Prod.ext h1 (Option.some.inj (hol.symm.trans h2)).symm
    have N₂ : News h₀ env.locals hh' ((s.heap.objs.size, o) :: (l, ol) :: news₁) := fun p hp => by
      rcases List.mem_cons.mp hp with rfl | hp
      · exact N₁ _ (List.mem_append_left _ hmem)
      · rcases List.mem_cons.mp hp with rfl | hp
        · exact N₁ _ (List.mem_append_left _ hmeml)
        · exact N₁ _ (List.mem_append_right _ hp)
    refine wpC_mono (turn _ o ol i v m₁ news₁ hh' tk' hP hne (fun p hp q => hoff p hp (by rw [q]; simp)) hnl' hJ F₁ N₂) (fun f s₂ p => ?_) fun _ _ e => e
    have fin : (∃ h' tk m' news', s₂ = { s with heap := h', toks := tk } ∧ Fr h₀ env.locals h' m' ∧ News h₀ env.locals h' ([(s.heap.objs.size, o), (l, ol)] ++ news') ∧ (∀ p ∈ news', ∀ q ∈ [(s.heap.objs.size, o), (l, ol)], p.1 ≠ q.1) ∧ J (i + 1) m' news') →
        LoopStepU h₀ env.locals [s.heap.objs.size] own (fun m₁ news₁ => (∀ p ∈ news₁, p.1 ≠ l) ∧ J (i + 1) m₁ news₁) { s with heap := hh', toks := tk' } .next s₂ := by
      rintro ⟨h', tk, m', news', rfl, F', N', ha, hJ'⟩
      refine ⟨rfl, h', tk, m', news', rfl, F', fun p hp => ?_, fun p hp hb => ha p hp (s.heap.objs.size, o) (by simp) (List.mem_singleton.mp hb), fun p hp => ha p hp (l, ol) (by simp), hJ'⟩
      rcases List.mem_append.mp hp with hp | hp
      · rcases hone p hp with rfl | rfl
        · exact N' _ (by simp)
        · exact N' _ (by simp)
      · exact N' p (List.mem_append_right _ hp)
    cases f with
    | ret v => exact .ret p
    | brk => exact .brk p
    | next => exact .next (fin p)
    | cont => exact .cont (fin p)
  · rintro h' tk m' news' F' N' _ ⟨_, hJ⟩
    exact done m' news' h' tk hJ F' N'

/-- a loop over range(n) -/
theorem loopRC {r : Addr} {n : Nat} {t₀ u₀ v₀ : Tok} {m₀ : Str → Option Value} {news : List (Addr × Obj)}
    (J : Nat → (Str → Option Value) → List (Addr × Obj) → Prop) (hh : A.handled = none)
    (hr : IsRange s.heap r 0 n 1 t₀ u₀ v₀) (hn : n < 1000000)
    (F : Fr h₀ env.locals s.heap m₀) (N : News h₀ env.locals s.heap news) (hj : J 0 m₀ news)
    (turn : ∀ I o i t m₁ news₁ h tk, i < n → (∀ p ∈ news₁, p.1 ≠ I) → J i m₁ news₁ → Fr h₀ env.locals h (fun y => if y = x then some (.int (i : Int) t) else m₁ y) → News h₀ env.locals h ((I, o) :: news₁) →
      wpC (model prog w) A (execs body env) (StepP h₀ env.locals [(I, o)] (J (i + 1)) s Q) (fun _ _ => False) { s with heap := h, toks := tk })
    (done : ∀ m₁ news₁ h tk, J n m₁ news₁ → Fr h₀ env.locals h m₁ → News h₀ env.locals h news₁ → Q .next { s with heap := h, toks := tk }) :
    wpAny (model prog w) A (pyIter (.ref r)) (fun it s₂ => LoopAtC prog w A h₀ env x body Q it s₂) E s := by
  have hsize : Builtin.Range.rangeSize 0 (n : Int) 1 = (n : Int) := by
    rw [rangeSize_nat]; omega
  refine wpAny_pyIter_range hr (small_one (by decide) (by decide) (by omega) (by omega)) ?_
  have W := Walks.range (prog := prog) (w := w) hh s.heap.objs.size 0 1 n
  rw [hsize]
  refine loop1C (s := ⟨_, _, _, _, _⟩) (m₀ := m₀) (news := news) J W (fun i h st => ⟨_, st⟩) (Nat.ne_of_lt F.ns.lt) (next_is_new F) (fun p hp => Nat.ne_of_lt (Heap.lt_size (N p hp).1)) ?_ (F.push _) (fun p hp => ⟨Heap.get?_push_of_some _ (N p hp).1, (N p hp).2⟩) hj ?_ ?_
  · show IsRangeIter _ _ _ _ _
    simpa using Heap.get?_push_size _ rfl
  · rintro o i v m₁ news₁ h tk hi ⟨t, rfl⟩ hne hJ F₁ N₁
    have := turn s.heap.objs.size o i t m₁ news₁ h tk hi hne hJ (by simpa using F₁) N₁
    exact this
  · intro m₁ news₁ h tk hJ F₁ N₁
    exact done m₁ news₁ h tk hJ F₁ N₁
end
end Mine
end

section -- G37
open PySem PySem.W PySem.Calls PyProof.Rows PyProof.V PyProof.Rows.KTD
namespace Mine
set_option maxRecDepth 100000
set_option maxHeartbeats 1000000

section
variable {prog : Program} {w : World} {A : Around} {E : Value → Shared → Prop} {s : Shared} {d : Addr} {o : Obj} {es : Array DictEntry} {ep : Nat} {x : Str} {t : Tok} {dflt : Value}
theorem dget_strs {Q : Option Value → Shared → Prop} (ho : s.heap.get? d = some o) (hd : o.data = .dict es ep) (hall : (es.all fun e => isExactStrKey e.key) = true)
    (h : Q (findBy (fun k v => v.isStr k) es x) { s with toks := s.toks + 1 }) : wpAny (model prog w) A (dictGet d (.str x t)) Q E s := by
  unfold dictGet
  try with_reducible refine wpAny_holding ?_
  refine wpAny_bind (wpAny_pyHash_str (wpAny_bind (kt_dictFind_strs (s := { s with toks := s.toks + 1 }) ho hd hall ?_)))
  rw [findBy_of_findIdx?] at h
  cases hi : es.findIdx? fun e => e.key.isStr x with
  | none => rw [hi] at h; exact wpAny_pure h
  | some i => rw [hi] at h; exact wpAny_bind (wpAny_dictEntries (s := { s with toks := s.toks + 1 }) ho hd (wpAny_pure h))
theorem meets_dget2 : MeetsIn prog w (Builtin.«dict.get» ⟨[.ref d, .str x t, dflt], []⟩) (fun _ R s => (d == sysModules) = false ∧ s.heap.get? d = some o ∧ o.data = .dict es ep ∧ (es.all fun e => isExactStrKey e.key) = true ∧
    R (.ok (.ret ((findBy (fun k v => v.isStr k) es x).getD dflt))) { s with toks := s.toks + 1 }) :=
  .of_wp fun A R s ⟨hm, ho, hd, hall, hq⟩ => by
    show wpAny _ _ (dictGet d (.str x t) >>= _) _ _ s
    refine wpAny_bind (dget_strs ho hd hall ?_)
    cases q : findBy (fun k v => v.isStr k) es x with
    | some v => rw [q] at hq; exact wpAny_pure ⟨v, rfl, hq⟩
    | none =>
      rw [q] at hq
      show wpAny _ _ (Builtin.Dict.missed d (.str x t) >>= _) _ _ _
      exact wpAny_bind (wpAny_missed_other hm (wpAny_pure ⟨dflt, rfl, hq⟩))
theorem dget2 {Q : Value → Shared → Prop} (hm : (d == sysModules) = false) (ho : s.heap.get? d = some o) (hc : o.cls = .type "dict") (hd : o.data = .dict es ep) (hall : (es.all fun e => isExactStrKey e.key) = true)
    (h : Q ((findBy (fun k v => v.isStr k) es x).getD dflt) { s with toks := s.toks + 1 }) : wpAny (model prog w) A (call (.builtin "dict.get") [.ref d, .str x t, dflt]) Q E s :=
  call_meetsIn PySem.F.slot_dict_get ⟨o, ho, hc⟩ PySem.F.entry_dict_get (PySem.F.args_dict_get_3 _ _ _) meets_dget2 ⟨hm, ho, hd, hall, h⟩
theorem dget_method {pl : Sem Bool} {Q : Value × List Value → Shared → Prop} (ho : s.heap.get? d = some o) (hc : o.cls = .type "dict") (hn : o.dict = none)
    (h : Q (.builtin "dict.get", [.ref d]) s) : wpAny (model prog w) A (getMethod (.ref d) "get" pl) Q E s :=
  getMethod_builtin ⟨o, ho, hc⟩ PySem.F.plainAttrs_dict PySem.F.slot_dict_get PySem.F.type_dict_get (fun b e => by injection e with e; subst e; exact ⟨o, ho, hn⟩) h
end

/-- the stage told of a word -/
def stg (p : List Nat) : Nat := if p = [100, 101, 118] then 10 else if p = [112, 108] then 200 else 0

/-- words of the release: capital letters up to P, dev, pl -/
def RWord (p : List Nat) : Prop := (∃ c r, p = c :: r ∧ ∀ d ∈ c :: r, 65 ≤ d ∧ d ≤ 80) ∨ p = [100, 101, 118] ∨ p = [112, 108]

theorem stg_word {c : Nat} {r : List Nat} (hp : ∀ d ∈ c :: r, 65 ≤ d ∧ d ≤ 80) : stg (c :: r) = 0 := by
  have := hp c (.head _)
  unfold stg
  rw [if_neg (by simp; omega), if_neg (by simp; omega)]
theorem far {x : Str} {c : Nat} {r : List Nat} {y : Str} (hx : x = strOf (c :: r)) (h : ∀ d ∈ c :: r, 65 ≤ d ∧ d ≤ 80) (hy : y.cps.toList.any (fun d => decide (80 < d)) = true) : (y == x) = false := by
  rw [hx]
  refine Bool.eq_false_iff.mpr fun q => ?_
  have := eq_of_beq q
  rw [this] at hy
  simp [strOf] at hy
  have h1 := h c (.head _)
  rcases hy with hy | ⟨d, hd, hy⟩
  · omega
  · have := h d (.tail _ hd); omega

theorem get37 {prog : Program} {w : World} {A : Around} {E : Value → Shared → Prop} {s : Shared} {p : List Nat} {t tz : Tok} {Q : Value → Shared → Prop} (KX : (hd.heap_39 w.params).In s.heap) (hp : RWord p)
    (h : ∀ t', Q (.int (stg p : Nat) t') { s with toks := s.toks + 1 }) : wpAny (model prog w) A (call (.builtin "dict.get") [.ref 37, .str (strOf p) t, .int 0 tz]) Q E s := by
  refine dget2 (by decide) (KX 37 _ rfl) rfl rfl (by simp [isExactStrKey]) ?_
  rcases hp with ⟨c, r, rfl, hp⟩ | rfl | rfl
  · have h0 : stg (c :: r) = 0 := by
      have := hp c (.head _)
      unfold stg
      rw [if_neg (by simp; omega), if_neg (by simp; omega)]
    have h1 := h tz
    rw [h0] at h1
    have z : ∀ y : Str, y.cps.toList.any (fun d => decide (80 < d)) = true → (y == strOf (c :: r)) = false := fun y hy => far rfl hp hy
    simp only [findBy, Value.isStr, List.find?_toArray]
    repeat rw [List.find?_cons_of_neg (by show ¬ ((_ == strOf (c :: r)) = true); rw [z _ (by decide +kernel)]; exact Bool.false_ne_true)]
    exact h1
  · have h1 := h 332
    simp only [findBy, Value.isStr, List.find?_toArray]
    rw [List.find?_cons_of_pos (by show ((_ == strOf _) = true); decide +kernel)]
    exact h1
  · have h1 := h 348
    simp only [findBy, Value.isStr, List.find?_toArray]
    repeat rw [List.find?_cons_of_neg (by show ¬ ((_ == strOf _) = true); decide +kernel)]
    rw [List.find?_cons_of_pos (by show ((_ == strOf _) = true); decide +kernel)]
    exact h1
end Mine
end

section -- Cv
open PySem PySem.W PyProof.Rows
namespace Mine
set_option maxRecDepth 100000
set_option maxHeartbeats 8000000

theorem cv_call {w : World} {mean : ExcName → Option Value} {mg mb : Str → Option Value} {e : Env} {s : Shared} {R : Result → Shared → Prop} {x : Str} {tx : Tok} {h₀ : Heap} {L : Addr} {m : Str → Option Value} (f : List Nat → List It)
    (T0 : Top hd.view_39 (looseW hd.view_39 [Str.ofString "_twin_re_1", Str.ofString "_ver_stages"]) mean mg mb h₀)
    (KX0 : (hd.heap_39 w.params).In h₀) (FL : Fr h₀ L s.heap m) (hef : e.frame = some L) (hek : e.scope.kind ≠ .module)
    (hx : x.length ≤ 100000) (hn : (spl [] false x.cps.toList).length ≤ 100000) (hf : ∀ p ∈ spl [] false x.cps.toList, p.length ≤ 600 ∧ Piece p (f p))
    (hR : ∀ D nn us h' tk, ItsAre us.toList ((spl [] false x.cps.toList).flatMap f) → s.heap.get? D = none → h'.get? D = some (W.listOf us nn) → (∀ b o, s.heap.get? b = some o → b ≠ L → h'.get? b = some o) →
      Fr h₀ L h' m → R (.ok (.ret (.ref D))) { s with heap := h', toks := tk }) :
    codeC (model PySem.Challenge.rw_pe0029_01.row.prog w) (callerA.deeper e) (.call (.ref 44) ⟨[.str x tx], []⟩) R s := by
  have KS : (hd.heap_39 w.params).In s.heap := KX0.keeps FL.keep
  have TS := T0.keeps FL.keep
  have kb : h₀.StaysIn (hideAll s.heap [L]) := fun b o q => hideAll_get _ (FL.keep b o q) (by simp; rintro rfl; rw [kts_self FL] at q; cases q)
  have h4 : ∃ hb, hb = hideAll s.heap [L] := ⟨_, rfl⟩
  obtain ⟨hb, hhb⟩ := h4
  rw [← hhb] at kb
  have KX : (hd.heap_39 w.params).In hb := KX0.keeps kb
  have T := T0.keeps kb
  obtain ⟨oL, es, ep, hoL, hoLd, hoLr⟩ := FL.ns
  refine callC_plain (binds := [(Str.ofString "version", .str x tx)]) (by k_room) (KS 44 _ rfl) rfl TS.nolimit (codeRec_of KS rfl) rfl (by simp only [List.forall_mem_cons]; exact ⟨rfl, by simp⟩) ?_
  clear KS TS KX0 T0
  revert KX; k_fill; intro KX
  w_on; w_top on
  intro h₁ F0
  have F : Fr hb s.heap.objs.size h₁ (fun y => List.lookup y [(Str.ofString "version", Value.str x tx)].reverse) := ⟨F0.ns, fun b o q => F0.keep b o (of_hideAll [L] (by rw [← hhb]; exact q)), by rw [hhb, hideAll_size]; exact F0.above⟩
  have hLL : @Ne Nat L s.heap.objs.size := Nat.ne_of_lt (Heap.lt_size hoL)
  have N : News hb s.heap.objs.size h₁ [(L, oL)] := fun p hp => by
    rw [List.mem_singleton.mp hp]
    exact ⟨F0.keep _ _ hoL, hLL, by rw [hhb]; exact hideAll_none _ (by simp)⟩
  clear F0
  refine wpC_execs_cons (wpC_of_any ?_)
  repeat' (first | (k_unfold; (try dsimp only)) | (first | walk1 | (dsimp only; walk1)))
  refine wpC_execs_cons (wpC_of_any ?_)
  repeat' (first | (k_unfold; (try dsimp only)) | (first | walk1 | (dsimp only; walk1)))
  refine wpC_execs_cons ?_
  rename Fr _ _ _ _ => F₁
  rename News _ _ _ _ => N₁
  rename_i lr _ hlr hv
  refine For_invC hb rfl rfl ?_
  repeat' (first | (k_unfold; (try dsimp only)) | ((fail_if_success (with_reducible show wpAny _ _ (getMethod _ _ _) _ _ _)); (fail_if_success (with_reducible show wpAny _ _ (call _ _ _) _ _ _)); (fail_if_success (with_reducible show wpAny _ _ (pyIter _) _ _ _)); first | walk1 | (dsimp only; walk1)))
  have hp := F₁.keep 36 patObj (KX 36 _ rfl)
  have hc := F₁.keep 35 codeObj (KX 35 _ rfl)
  refine getMethod_split hp ?_
  repeat' (first | (k_unfold; (try dsimp only)) | ((fail_if_success (with_reducible show wpAny _ _ (call _ _ _) _ _ _)); (fail_if_success (with_reducible show wpAny _ _ (pyIter _) _ _ _)); first | walk1 | (dsimp only; walk1)))
  refine call_split hp hc (by omega) (fun us tk hus => ?_)
  have hps : ∃ ps, spl [] false x.cps.toList = ps := ⟨_, rfl⟩
  obtain ⟨ps, hps⟩ := hps
  rw [hps] at hus hf hn hR
  dsimp only
  have k : hv.StaysIn (hv.push { cls := .type "list", data := .seq us.toArray }) := fun b o q => Heap.get?_push_of_some _ q
  have F₂ := frStay F₁ k
  have N₂ := newsAdd F₁ N₁ k (Heap.get?_none_of_le (Nat.le_refl _)) (Heap.get?_push_size _ rfl)
  have hnn := newsNe N₁ (Heap.get?_none_of_le (Nat.le_refl _))
  refine loop2C (vs := us.toArray) (nn := 0) (fun i m news => ∃ us' k sl, m (Str.ofString "result") = some (.ref lr) ∧ news = [(lr, W.listOf us' k), (L, { oL with slots := sl })] ∧ ItsAre us'.toList ((ps.take i).flatMap f)) rfl hnn F₂ N₂ ?_ ?_ ?_
  · exact ⟨#[], 0, oL.slots, rfl, rfl, by simpa using ItsAre.nil⟩
  · clear F₂ N₂ F₁ N₁ hnn k hp hc
    rintro I o ol i v m₁ news₁ h tk' hgv hne1 hne2 hne3 ⟨us', k', sl, hm, rfl, hI⟩ F₃ N₃
    obtain ⟨y, t, rfl, hy⟩ := hus.item i v (by simpa using hgv)
    have hpi : ∃ p, ps[i]? = some p ∧ strOf p = y := by
      rw [List.getElem?_map] at hy
      cases q : ps[i]? with
      | none => rw [q] at hy; cases hy
      | some p => rw [q] at hy; exact ⟨p, rfl, Option.some.inj hy⟩
    obtain ⟨p, hpi, rfl⟩ := hpi
    obtain ⟨hpl, hP⟩ := hf p (List.mem_of_getElem? hpi)
    have htk : (ps.take (i + 1)).flatMap f = (ps.take i).flatMap f ++ f p := by
      rw [List.take_succ, hpi]; simp
    have hfp : ∃ fp, f p = fp := ⟨_, rfl⟩
    obtain ⟨fp, hfp⟩ := hfp
    rw [hfp] at hP htk
    have husz : us'.size ≤ 2 * i := by
      have h1 := hI.length
      have h2 := pieces_len (ps := ps.take i) (fun p hp => (hf p (List.mem_of_mem_take hp)).2)
      rw [List.length_take] at h2
      simp only [Array.length_toList] at h1
      omega
    have hi5 : i < 100000 := by
      have := (List.getElem?_eq_some_iff.mp hpi).1
      omega
    replace F₃ := frUnder1 F₃ hm
    have n1 := neN hne1
    have n2 := neN (hne2 _ (.head _))
    have n3 := neN (hne2 _ (.tail _ (.head _)))
    have n4 := neN (hne3 _ (.head _))
    have n5 := neN (hne3 _ (.tail _ (.head _)))
    dsimp only at n1 n2 n3 n4 n5
    refine wpC_execs_cons (wpC_If ?_)
    repeat' (first | (k_unfold; (try dsimp only)) | (first | walk1 | (dsimp only; walk1)))
    · rename ((Builtin.Str.occurrences _ _ _ _ _).isEmpty = true) => hocc
      refine wpC_execs_cons (wpC_mono (Q := fun (fl : Flow) s' => fl = .next ∧ ∃ (h' : Heap) (tk : Nat) (sl' : Array (Option Value)) (m' : Str → Option Value) (tv vv : Value), s' = { s with heap := h', toks := tk } ∧
        m' (Str.ofString "t") = some tv ∧ m' (Str.ofString "v") = some vv ∧ m' (Str.ofString "result") = some (.ref lr) ∧ Fr hb s.heap.objs.size h' m' ∧
        News hb s.heap.objs.size h' [(I, o), (hv.objs.size, ol), (lr, W.listOf us' k'), (L, { oL with slots := sl' })] ∧ ItsAre [tv, vv] fp) (E := fun _ _ => False) ?_ ?_ (fun _ _ x => x.elim))
      · refine wpC_Try ?_
        have hcase : (∃ n, n < 100 ∧ p = digs n ∧ fp = [.n 100, .n n]) ∨ (∃ c r, p = c :: r ∧ (∀ d ∈ c :: r, 65 ≤ d ∧ d < 123 ∧ d ≠ 95) ∧ RWord p ∧ fp = [.n (stg p : Nat), .t p]) := by
          cases hP with
          | nil => rw [occ_nil] at hocc; cases hocc
          | sep hs => rw [occ_sep hs] at hocc; cases hocc
          | num hn => exact .inl ⟨_, hn, rfl, rfl⟩
          | word hw => exact .inr ⟨_, _, rfl, fun d hd => by have := hw d hd; omega, .inl ⟨_, _, rfl, hw⟩, by rw [stg_word hw]; rfl⟩
          | dev => exact .inr ⟨_, _, rfl, by simp, .inr (.inl rfl), rfl⟩
          | pl => exact .inr ⟨_, _, rfl, by simp, .inr (.inr rfl), rfl⟩
        rcases hcase with ⟨n, hn, hpn, hfn⟩ | ⟨c, r, hpc, hpr, hrw, hfn⟩
        · have hnt : PySem.intText? (strOf p) = some (n : Int) := by rw [hpn]; exact digs_reads hn
          have hpl6 : (strOf p).length ≤ 640 := by simp [strOf, Str.length]; omega
          refine wpC_of_any ?_
          repeat' (first | (k_unfold; (try dsimp only)) | ((fail_if_success (with_reducible show wpAny _ _ (call (Value.type "int") _ _) _ _ _)); first | walk1 | (dsimp only; walk1)))
          refine intCall_text hnt hpl6 ?_
          dsimp only
          repeat' (first | (k_unfold; (try dsimp only)) | ((fail_if_success (with_reducible show (_ ∧ _))); first | walk1 | (dsimp only; walk1)))
          rename Fr hb _ _ _ => Fa; rename News _ _ _ _ => Na
          exact ⟨rfl, _, _, sl, _, _, _, rfl, rfl, rfl, rfl, Fa, Na, by rw [hfn]; exact .int _ _ (.int _ _ .nil)⟩
        · have hpt : (strOf p).cps.toList = c :: r := by rw [hpc]; simp [strOf]
          obtain ⟨e1, hbad⟩ := word_bad hpt hpr
          refine wpC_execs_cons (asgC_raise (CallC ?_))
          repeat' (first | (k_unfold; (try dsimp only)) | (first | walk1 | (dsimp only; walk1)))
          refine callWithC_type rfl ?_
          refine evalArgs_plainC (spliced_consC (wpC_of_any ?_))
          rw [if_neg Bool.false_ne_true]
          repeat' (first | (k_unfold; (try dsimp only)) | (first | walk1 | (dsimp only; walk1)))
          refine spliced_consC (wpC_of_any ?_)
          rw [if_neg Bool.false_ne_true]
          repeat' (first | (k_unfold; (try dsimp only)) | (first | walk1 | (dsimp only; walk1)))
          refine wpC_of_any ?_
          repeat' (first | (k_unfold; (try dsimp only)) | (first | walk1 | (dsimp only; walk1)))
          have hs64 : (numSeenOf (strOf p)).length ≤ 640 := by
            rw [e1, ← hpc]; omega
          have hrep : (reprText (strOf p)).length ≤ sizeLine := word_repr hpt hpr (by rw [← hpc]; exact hpl)
          refine intCall_bad (by rfl) hrep hs64 hbad ?_
          intro he tke ee hx
          dsimp only
          refine TLg.noted_new1 (new := [(I, o), (hv.objs.size, ol), (lr, W.listOf us' k')]) (L := L) (oL := { oL with slots := sl }) (env := e) rfl ⟨hek, hef, ⟨es, ep, hoLd⟩, trivial⟩ hx F₃ N₃ ⟨by omega, by omega, by omega, trivial⟩ ?_
          intro h₅ sl₂ _ H₅
          refine TT.HeldNA.land H₅ ?_
          intro h₆ H₆
          with_unfolding_all refine TT.clause_hitTN H₆ T (k := ?_) (hv := by boot_by_name)
          clear H₅ H₆ N₃ F₃
          intro h₇ F₇ N₇
          dsimp only
          repeat' (first | (k_unfold; (try dsimp only)) | ((fail_if_success (with_reducible show wpAny _ _ (getMethod _ _ _) _ _ _)); first | walk1 | (dsimp only; walk1)))
          have KX₇ := KX.keeps F₇.keep
          refine dget_method (KX₇ 37 _ rfl) rfl rfl ?_
          repeat' (first | (k_unfold; (try dsimp only)) | ((fail_if_success (with_reducible show wpAny _ _ (call (Value.builtin "dict.get") _ _) _ _ _)); first | walk1 | (dsimp only; walk1)))
          refine get37 KX₇ hrw ?_
          intro tst
          dsimp only
          repeat' (first | (k_unfold; (try dsimp only)) | ((fail_if_success (with_reducible show (_ ∧ _))); first | walk1 | (dsimp only; walk1)))
          rename Fr hb _ _ _ => Fa; rename News _ _ _ _ => Na
          exact ⟨rfl, _, _, sl₂, _, _, _, rfl, rfl, rfl, rfl, Fa, Na, by rw [hfn]; exact .int _ _ (.str _ _ .nil)⟩
      · rintro fl s' ⟨rfl, h', tk₂, sl', m', tv, vv, rfl, hm1, hm2, hm3, F₄, N₄, hIt⟩
        replace F₄ := frPut3 F₄ hm1 hm2 hm3
        refine wpC_of_any ?_
        repeat' (first | (k_unfold; (try dsimp only)) | ((fail_if_success (with_reducible show wpAny _ _ (call (Value.builtin "list.extend") _ _) _ _ _)); first | walk1 | (dsimp only; walk1)))
        rename Fr hb _ _ _ => Fa; rename News _ _ _ _ => Na
        refine extT Fa Na (.head _) (Nat.succ_pos _) (by k_upd) (by simp; omega) ?_
        intro ha Fb Nb
        clear Fa Na
        dsimp only at Nb ⊢
        repeat' (first | (k_unfold; (try dsimp only)) | ((fail_if_success (with_reducible show (_ ∧ _))); first | walk1 | (dsimp only; walk1)))
        (try dsimp only)
        refine wpC_of_any (wpAny_execs_nil ?_)
        refine ⟨_, _, _, [(lr, W.listOf (us' ++ #[tv, vv]) (k' + 1)), (L, { oL with slots := sl' })], rfl, Fb, News.perm Nb (fun p hp => .tail _ hp), ?_, us' ++ #[tv, vv], k' + 1, sl', rfl, rfl, ?_⟩
        · intro p hp q hq
          simp at hp hq
          rcases hp with rfl | rfl <;> rcases hq with rfl | rfl <;> simp <;> omega
        · rw [htk, Array.toList_append]
          exact hI.append hIt
    · rename ((Builtin.Str.occurrences _ _ _ _ _).isEmpty = false) => hocc
      have hnil : fp = [] := by
        cases hP with
        | nil => rfl
        | sep hs => rfl
        | num hn => rw [occ_num hn] at hocc; cases hocc
        | word hw => rw [occ_far (by have := hw _ (.head _); omega)] at hocc; cases hocc
        | dev => rw [occ_far (by omega)] at hocc; cases hocc
        | pl => rw [occ_far (by omega)] at hocc; cases hocc
      refine wpC_of_any (wpAny_execs_nil ?_)
      (try dsimp only)
      refine wpC_of_any (wpAny_execs_nil ?_)
      refine ⟨_, _, _, [(lr, W.listOf us' k'), (L, { oL with slots := sl })], rfl, F₃, N₃, ?_, us', k', sl, rfl, rfl, ?_⟩
      · intro p hp q hq
        simp at hp hq
        rcases hp with rfl | rfl <;> rcases hq with rfl | rfl <;> simp <;> omega
      · rw [htk, hnil, List.append_nil]
        exact hI
  · rintro m₁ news₁ h' tk' ⟨us', k', sl, hm, rfl, hI⟩ F₃ N₃
    have hsz : us.toArray.size = ps.length := by
      have := hus.length
      simpa using this
    rw [hsz, List.take_length] at hI
    replace F₃ := frPut F₃ hm
    clear F₂ N₂ F₁ N₁ hnn k hp hc
    refine wpC_of_any ?_
    repeat' (first | (k_unfold; (try dsimp only)) | (first | walk1 | (dsimp only; walk1)))
    have hLg := (N₃ _ (.tail _ (.head _))).1
    refine hR lr k' us' _ _ hI ?_ (N₃ _ (.head _)).1 (fun b o q hbL => F₃.keep b o (by rw [hhb]; exact hideAll_get _ q (by simpa using hbL))) ⟨⟨_, es, ep, hLg, hoLd, hoLr⟩, fun b o q => F₃.keep b o (kb b o q), FL.above⟩
    cases q : s.heap.get? lr with
    | none => rfl
    | some o =>
      have h5 := hideAll_get [L] q (by simp; exact fun q => absurd (q ▸ hlr) (Nat.lt_irrefl _))
      rw [← hhb, (N₃ _ (.head _)).2.2] at h5
      cases h5
end Mine
end

section -- CmpL
open PySem PySem.W PySem.Calls PyProof.Rows PyProof.V
namespace Mine
set_option maxRecDepth 100000
set_option maxHeartbeats 1000000

/-- how two rows of items stand, item by item -/
inductive CmpI : List It → List It → Ordering → Prop
  | nil : CmpI [] [] .eq
  | short (y : It) (ys : List It) : CmpI [] (y :: ys) .lt
  | long (x : It) (xs : List It) : CmpI (x :: xs) [] .gt
  | same (x : It) {xs ys : List It} {o : Ordering} : CmpI xs ys o → CmpI (x :: xs) (x :: ys) o
  | nlt {i j : Int} (xs ys : List It) : i < j → CmpI (.n i :: xs) (.n j :: ys) .lt
  | ngt {i j : Int} (xs ys : List It) : j < i → CmpI (.n i :: xs) (.n j :: ys) .gt
  | tlt {a b : List Nat} (xs ys : List It) : a < b → CmpI (.t a :: xs) (.t b :: ys) .lt
  | tgt {a b : List Nat} (xs ys : List It) : b < a → CmpI (.t a :: xs) (.t b :: ys) .gt

theorem strOf_inj {a b : List Nat} (h : strOf a = strOf b) : a = b := by
  unfold strOf at h
  injection h with h
  simpa using h


inductive ItIs : Value → It → Prop
  | int (i : Int) (k : Tok) : ItIs (.int i k) (.n i)
  | str (l : List Nat) (k : Tok) : ItIs (.str (strOf l) k) (.t l)
theorem ItsAre.item : ∀ {vs : List Value} {xs : List It}, ItsAre vs xs → ∀ (j : Nat) (v : Value), vs[j]? = some v → ∃ x, xs[j]? = some x ∧ ItIs v x
  | _, _, .nil, _, _, h => by simp at h
  | _, _, .int i k r, 0, v, h => by simp at h; subst h; exact ⟨_, rfl, .int i k⟩
  | _, _, .str l k r, 0, v, h => by simp at h; subst h; exact ⟨_, rfl, .str l k⟩
  | _, _, .int i k r, j + 1, v, h => by simp at h; simpa using r.item j v h
  | _, _, .str i k r, j + 1, v, h => by simp at h; simpa using r.item j v h
theorem strOf_beq (a b : List Nat) : (strOf a == strOf b) = decide (a = b) := by
  by_cases h : a = b
  · subst h; simp
  · have h2 : ¬ strOf a = strOf b := fun q => h (strOf_inj q)
    rw [beq_eq_false_iff_ne.mpr h2, decide_eq_false h]
theorem eqAt_it {A : Around} {s : Shared} {v u : Value} {x y : It} (hv : ItIs v x) (hu : ItIs u y) : SeqAt.EqAt A s v u (decide (x = y)) := by
  cases hv with
  | int i k =>
    cases hu with
    | int j k' =>
      have e : decide (It.n i = It.n j) = (i == j) := by by_cases h : i = j <;> simp [h]
      rw [e]; exact SeqAt.EqAt.int_int i k j k'
    | str l k' => exact SeqAt.EqAt.int_str i k _ k'
  | str l k =>
    cases hu with
    | int j k' => exact SeqAt.EqAt.str_int _ k j k'
    | str l' k' =>
      have e : decide (It.t l = It.t l') = (strOf l == strOf l') := by rw [strOf_beq]; by_cases h : l = l' <;> simp [h]
      rw [e]; exact SeqAt.EqAt.str_str _ k _ k'
theorem all_places {xs ys : List It} (h : xs.length = ys.length) : ((List.range xs.length).all fun j => decide (xs[j]? = ys[j]?)) = decide (xs = ys) := by
  by_cases q : xs = ys
  · subst q; simp
  · rw [decide_eq_false q, List.all_eq_false]
    by_cases hall : ∀ j, j < xs.length → xs[j]? = ys[j]?
    · exact absurd (List.ext_getElem? fun j => by
        by_cases hj : j < xs.length
        · exact hall j hj
        · rw [List.getElem?_eq_none (by omega), List.getElem?_eq_none (by omega)]) q
    · have ⟨j, hj⟩ := Classical.not_forall.mp hall
      have ⟨h1, h2⟩ := Classical.not_imp.mp hj
      exact ⟨j, List.mem_range.mpr h1, by simpa using h2⟩
section
variable {prog : Program} {w : World} {A : Around} {E : Value → Shared → Prop} {s : Shared} {a b : Addr} {us vs : Array Value} {xs ys : List It} {Q : Value → Shared → Prop}
theorem its_places (hi : ItsAre us.toList xs) (hj : ItsAre vs.toList ys) (A : Around) (s : Shared) (j : Nat) (h1 : j < us.size) (h2 : j < vs.size) : SeqAt.EqAt A s us[j] vs[j] (decide (xs[j]? = ys[j]?)) := by
  obtain ⟨x, hx, ix⟩ := hi.item j us[j] (by simp)
  obtain ⟨y, hy, iy⟩ := hj.item j vs[j] (by simp)
  have := eqAt_it (A := A) (s := s) ix iy
  rw [hx, hy]
  simpa using this
theorem eq_its (ha : s.heap.IsList a us) (hb : s.heap.IsList b vs) (hi : ItsAre us.toList xs) (hj : ItsAre vs.toList ys) (hu : A.units < cLine) (h : Q (.bool (decide (xs = ys))) s) :
    wpAny (model prog w) A (compareOp .Eq (.ref a) (.ref b)) Q E s := by
  have hx : us.size = xs.length := by simpa using hi.length
  have hy : vs.size = ys.length := by simpa using hj.length
  by_cases hs : us.size = vs.size
  · refine SeqAt.eq_listAt ha hb hs hu (e := fun j => decide (xs[j]? = ys[j]?)) (fun j h1 h2 => its_places hi hj _ _ j h1 h2) ?_
    rw [hx, all_places (by omega)]; exact h
  · refine SeqAt.eq_list_lengthsAt ha hb (by simpa using hs) hu ?_
    rw [decide_eq_false (fun q => hs (by rw [hx, hy, q]))] at h; exact h
theorem ne_its (ha : s.heap.IsList a us) (hb : s.heap.IsList b vs) (hi : ItsAre us.toList xs) (hj : ItsAre vs.toList ys) (hu : A.units < cLine) (h : Q (.bool (!decide (xs = ys))) s) :
    wpAny (model prog w) A (compareOp .NotEq (.ref a) (.ref b)) Q E s := by
  have hx : us.size = xs.length := by simpa using hi.length
  have hy : vs.size = ys.length := by simpa using hj.length
  by_cases hs : us.size = vs.size
  · refine SeqAt.RcNeAt.lists ha hb hs hu (e := fun j => decide (xs[j]? = ys[j]?)) (fun j h1 h2 => its_places hi hj _ _ j h1 h2) prog w E Q ?_
    rw [hx, all_places (by omega)]; exact h
  · refine SeqAt.RcNeAt.lists_lengths ha hb (by simpa using hs) hu prog w E Q ?_
    rw [decide_eq_false (fun q => hs (by rw [hx, hy, q]))] at h; exact h
end
theorem CmpI.eq_iff {xs ys : List It} {o : Ordering} (h : CmpI xs ys o) : xs = ys ↔ o = .eq := by
  induction h with
  | nil => simp
  | short => simp
  | long => simp
  | same x _ ih => simp [ih]
  | nlt _ _ h => simp; intro q; omega
  | ngt _ _ h => simp; intro q; omega
  | tlt _ _ h => simp; intro q; subst q; exact absurd h (List.lt_irrefl _)
  | tgt _ _ h => simp; intro q; subst q; exact absurd h (List.lt_irrefl _)
section
set_option maxHeartbeats 4000000
open PySem.MeetsSeq PySem.MeetsSeq3

theorem mine_step (l b : Addr) (items items2 : Array Value) (n n2 : Nat) (dd dd2 : Option Addr) (sl sl2 : Array (Option Value)) {xs ys : List It} {o : Ordering} (hc : CmpI xs ys o) :
    ∀ i : Nat, i ≤ items.size → i ≤ items2.size → ItsAre (items.toList.drop i) xs → ItsAre (items2.toList.drop i) ys → Meets (Builtin.«list.__eq__.loop» ⟨[.ref l, .ref b, rawInt i, rawInt 0], []⟩)
      (fun A R s => s.heap.get? l = some { cls := .type "list", dict := dd, data := .seq items n, slots := sl } ∧ s.heap.get? b = some { cls := .type "list", dict := dd2, data := .seq items2 n2, slots := sl2 } ∧
        R (.ok (.ret (.bool (o == .lt)))) s) := by
  have nilOf : ∀ {vs : Array Value} {i : Nat}, ItsAre (vs.toList.drop i) [] → vs.size ≤ i := by
    intro vs i h
    have := h.length
    simp at this; omega
  have consOf : ∀ {vs : Array Value} {i : Nat} {x : It} {xs : List It}, ItsAre (vs.toList.drop i) (x :: xs) → ∃ v, vs[i]? = some v ∧ ItIs v x ∧ ItsAre (vs.toList.drop (i + 1)) xs := by
    intro vs i x xs h
    have h1 := h.length
    simp at h1
    have hlt : i < vs.size := by omega
    have hd : vs.toList.drop i = vs[i] :: vs.toList.drop (i + 1) := by simp [List.drop_eq_getElem_cons, hlt]
    rw [hd] at h
    refine ⟨vs[i], by simp [hlt], ?_⟩
    generalize vs[i] = v at h
    cases h with
    | int i k r => exact ⟨.int _ _, r⟩
    | str i k r => exact ⟨.str _ _, r⟩
  have itemsOf : ∀ {vs : Array Value} {i : Nat} {v : Value}, vs[i]? = some v → i < vs.size := by
    intro vs i v h
    exact (Array.getElem?_eq_some_iff.mp h).1
  induction hc with
  | nil =>
    intro i z1 z2 h1 h2 prog w A R s h
    obtain ⟨hp, g, d, tk, os⟩ := s; obtain ⟨hl, hb, h⟩ := h
    wp_walk using AutoSeq1.wpAny_loadPart' hl, AutoSeq1.wpAny_loadPart' hb
    have := nilOf h1; have := nilOf h2
    have hi1 : items[((i : Nat) : Int).toNat]? = none := by simp; omega
    have hi2 : items2[((i : Nat) : Int).toNat]? = none := by simp; omega
    rw [hi1, hi2]
    wp_walk using AutoSeq1.wpAny_loadPart' hl, AutoSeq1.wpAny_loadPart' hb
    show R (.ok (.ret (.bool (decide (items.size < items2.size))))) _
    rw [decide_eq_false (by omega)]; exact h
  | short y ys =>
    intro i z1 z2 h1 h2 prog w A R s h
    obtain ⟨hp, g, d, tk, os⟩ := s; obtain ⟨hl, hb, h⟩ := h
    wp_walk using AutoSeq1.wpAny_loadPart' hl, AutoSeq1.wpAny_loadPart' hb
    have := nilOf h1; have ⟨v, hv, _, _⟩ := consOf h2; have := itemsOf hv
    have hi1 : items[((i : Nat) : Int).toNat]? = none := by simp; omega
    rw [hi1]
    wp_walk using AutoSeq1.wpAny_loadPart' hl, AutoSeq1.wpAny_loadPart' hb
    show R (.ok (.ret (.bool (decide (items.size < items2.size))))) _
    rw [decide_eq_true (by omega)]; exact h
  | long x xs =>
    intro i z1 z2 h1 h2 prog w A R s h
    obtain ⟨hp, g, d, tk, os⟩ := s; obtain ⟨hl, hb, h⟩ := h
    wp_walk using AutoSeq1.wpAny_loadPart' hl, AutoSeq1.wpAny_loadPart' hb
    have := nilOf h2; have ⟨v, hv, _, _⟩ := consOf h1; have := itemsOf hv
    have hi1 : items[((i : Nat) : Int).toNat]? = some v := by simpa using hv
    have hi2 : items2[((i : Nat) : Int).toNat]? = none := by simp; omega
    rw [hi1, hi2]
    wp_walk using AutoSeq1.wpAny_loadPart' hl, AutoSeq1.wpAny_loadPart' hb
    show R (.ok (.ret (.bool (decide (items.size < items2.size))))) _
    rw [decide_eq_false (by omega)]; exact h
  | same x r ih =>
    intro i z1 z2 h1 h2 prog w A R s h
    obtain ⟨hp, g, d, tk, os⟩ := s; obtain ⟨hl, hb, h⟩ := h
    wp_walk using AutoSeq1.wpAny_loadPart' hl, AutoSeq1.wpAny_loadPart' hb
    have ⟨v, hv, iv, r1⟩ := consOf h1; have := itemsOf hv
    have ⟨u, hu, iu, r2⟩ := consOf h2; have := itemsOf hu
    have hi1 : items[((i : Nat) : Int).toNat]? = some v := by simpa using hv
    have hi2 : items2[((i : Nat) : Int).toNat]? = some u := by simpa using hu
    have hc : ((i : Int) + 1) = ((i + 1 : Nat) : Int) := by push_cast; rfl
    rw [hi1, hi2]
    refine wpAny_bind (eqAt_it iv iu prog w _ _ ?_)
    rw [decide_eq_true rfl]
    wp_walk
    rw [hc]
    exact ⟨plainId_quiet plain_eq_loop _, codeAny_builtin entry_eq_loop (by
      rw [Around.under_plainId plain_eq_loop _]
      exact ih (i + 1) (by omega) (by omega) r1 r2 prog w A R _ ⟨hl, hb, h⟩)⟩
  | nlt xs ys hlt =>
    intro i z1 z2 h1 h2 prog w A R s h
    obtain ⟨hp, g, d, tk, os⟩ := s; obtain ⟨hl, hb, h⟩ := h
    wp_walk using AutoSeq1.wpAny_loadPart' hl, AutoSeq1.wpAny_loadPart' hb
    have ⟨v, hv, iv, r1⟩ := consOf h1
    have ⟨u, hu, iu, r2⟩ := consOf h2
    have hi1 : items[((i : Nat) : Int).toNat]? = some v := by simpa using hv
    have hi2 : items2[((i : Nat) : Int).toNat]? = some u := by simpa using hu
    rw [hi1, hi2]
    refine wpAny_bind (eqAt_it iv iu prog w _ _ ?_)
    rw [decide_eq_false (by intro q; injection q with q; omega)]
    wp_walk using AutoSeq1.wpAny_loadPart' hl, AutoSeq1.wpAny_loadPart' hb
    rw [hi1, hi2]
    cases iv; cases iu
    dsimp only
    refine wpAny_bind ?_
    refine PyProof.Rows.lt_int ?_
    rw [decide_eq_true hlt]
    wp_walk
    exact h
  | ngt xs ys hlt =>
    intro i z1 z2 h1 h2 prog w A R s h
    obtain ⟨hp, g, d, tk, os⟩ := s; obtain ⟨hl, hb, h⟩ := h
    wp_walk using AutoSeq1.wpAny_loadPart' hl, AutoSeq1.wpAny_loadPart' hb
    have ⟨v, hv, iv, r1⟩ := consOf h1
    have ⟨u, hu, iu, r2⟩ := consOf h2
    have hi1 : items[((i : Nat) : Int).toNat]? = some v := by simpa using hv
    have hi2 : items2[((i : Nat) : Int).toNat]? = some u := by simpa using hu
    rw [hi1, hi2]
    refine wpAny_bind (eqAt_it iv iu prog w _ _ ?_)
    rw [decide_eq_false (by intro q; injection q with q; omega)]
    wp_walk using AutoSeq1.wpAny_loadPart' hl, AutoSeq1.wpAny_loadPart' hb
    rw [hi1, hi2]
    cases iv; cases iu
    dsimp only
    refine wpAny_bind ?_
    refine PyProof.Rows.lt_int ?_
    rw [decide_eq_false (by omega)]
    wp_walk
    exact h
  | tlt xs ys hlt =>
    intro i z1 z2 h1 h2 prog w A R s h
    obtain ⟨hp, g, d, tk, os⟩ := s; obtain ⟨hl, hb, h⟩ := h
    wp_walk using AutoSeq1.wpAny_loadPart' hl, AutoSeq1.wpAny_loadPart' hb
    have ⟨v, hv, iv, r1⟩ := consOf h1
    have ⟨u, hu, iu, r2⟩ := consOf h2
    have hi1 : items[((i : Nat) : Int).toNat]? = some v := by simpa using hv
    have hi2 : items2[((i : Nat) : Int).toNat]? = some u := by simpa using hu
    rw [hi1, hi2]
    refine wpAny_bind (eqAt_it iv iu prog w _ _ ?_)
    rw [decide_eq_false (by intro q; injection q with q; subst q; exact List.lt_irrefl _ hlt)]
    wp_walk using AutoSeq1.wpAny_loadPart' hl, AutoSeq1.wpAny_loadPart' hb
    rw [hi1, hi2]
    cases iv; cases iu
    dsimp only
    refine wpAny_bind ?_
    refine PyProof.Rows.lt_str ?_
    rw [decide_eq_true (by simpa [strOf] using hlt)]
    wp_walk
    exact h
  | tgt xs ys hlt =>
    intro i z1 z2 h1 h2 prog w A R s h
    obtain ⟨hp, g, d, tk, os⟩ := s; obtain ⟨hl, hb, h⟩ := h
    wp_walk using AutoSeq1.wpAny_loadPart' hl, AutoSeq1.wpAny_loadPart' hb
    have ⟨v, hv, iv, r1⟩ := consOf h1
    have ⟨u, hu, iu, r2⟩ := consOf h2
    have hi1 : items[((i : Nat) : Int).toNat]? = some v := by simpa using hv
    have hi2 : items2[((i : Nat) : Int).toNat]? = some u := by simpa using hu
    rw [hi1, hi2]
    refine wpAny_bind (eqAt_it iv iu prog w _ _ ?_)
    rw [decide_eq_false (by intro q; injection q with q; subst q; exact List.lt_irrefl _ hlt)]
    wp_walk using AutoSeq1.wpAny_loadPart' hl, AutoSeq1.wpAny_loadPart' hb
    rw [hi1, hi2]
    cases iv; cases iu
    dsimp only
    refine wpAny_bind ?_
    refine PyProof.Rows.lt_str ?_
    rw [decide_eq_false (by simpa [strOf] using List.lt_asymm hlt)]
    wp_walk
    exact h

theorem mine_lt (l b : Addr) (items items2 : Array Value) (n n2 : Nat) (dd dd2 : Option Addr) (sl sl2 : Array (Option Value)) {xs ys : List It} {o : Ordering} (hc : CmpI xs ys o)
    (h1 : ItsAre items.toList xs) (h2 : ItsAre items2.toList ys) :
    Meets (Builtin.«list.__lt__» ⟨[.ref l, .ref b], []⟩)
      (fun A R s => s.heap.get? l = some { cls := .type "list", dict := dd, data := .seq items n, slots := sl } ∧ s.heap.get? b = some { cls := .type "list", dict := dd2, data := .seq items2 n2, slots := sl2 } ∧
        R (.ok (.ret (.bool (o == .lt)))) s) := by
  intro prog w A R s h
  obtain ⟨hp, g, d, tk, os⟩ := s; obtain ⟨hl, hb, h⟩ := h
  have f3 := AutoSeq1.sub_list_list
  wp_walk using AutoSeq1.wpAny_loadPart' hl, AutoSeq1.wpAny_loadPart' hb
  exact ⟨plainId_quiet plain_eq_loop _, codeAny_builtin entry_eq_loop (by
    rw [Around.under_plainId plain_eq_loop _]
    exact mine_step l b items items2 n n2 dd dd2 sl sl2 hc 0 (Nat.zero_le _) (Nat.zero_le _) (by simpa using h1) (by simpa using h2) prog w A R _ ⟨hl, hb, h⟩)⟩
end
theorem lt_its {prog : Program} {w : World} {A : Around} {E : Value → Shared → Prop} {s : Shared} {a b : Addr} {us vs : Array Value} {xs ys : List It} {o : Ordering} {Q : Value → Shared → Prop}
    (hl : s.heap.IsList a us) (hb : s.heap.IsList b vs) (hi : ItsAre us.toList xs) (hj : ItsAre vs.toList ys) (hu : A.units < cLine) (hc : CmpI xs ys o) (h : Q (.bool (o == .lt)) s) :
    wpAny (model prog w) A (compareOp .Lt (.ref a) (.ref b)) Q E s := by
  obtain ⟨⟨cls, dd, data, sl⟩, ho, hc1, n, hd⟩ := id hl
  obtain ⟨⟨cls2, dd2, data2, sl2⟩, ho2, hc2, n2, hd2⟩ := id hb
  simp only at hc1 hd hc2 hd2
  subst hc1 hd hc2 hd2
  exact richCompare_meets_room (op := .Lt) ⟨_, ho, rfl⟩ ⟨_, ho2, rfl⟩ F.slot_list_lt F.entry_list_lt (F.args_list_lt_2 _ _) (mine_lt a b us vs n n2 dd dd2 sl sl2 hc hi hj)
    ⟨ho, ho2, show Value.bool (o == .lt) ≠ Value.notImplemented ∧ Q (.bool (o == .lt)) s from ⟨(fun x => nomatch x), h⟩⟩ hu
end Mine
end

section -- CfO
open PySem PySem.W PyProof.Rows
namespace Mine
set_option maxRecDepth 100000
set_option maxHeartbeats 1000000

theorem CmpI.symm {xs ys : List It} {o : Ordering} (h : CmpI xs ys o) : CmpI ys xs o.swap := by
  induction h with
  | nil => exact .nil
  | short y ys => exact .long y ys
  | long x xs => exact .short x xs
  | same x _ ih => exact .same x ih
  | nlt xs ys h => exact .ngt ys xs h
  | ngt xs ys h => exact .nlt ys xs h
  | tlt xs ys h => exact .tgt ys xs h
  | tgt xs ys h => exact .tlt ys xs h
theorem CmpI.app {xs ys : List It} {o : Ordering} (h : CmpI xs ys o) : ∀ l : List It, CmpI (l ++ xs) (l ++ ys) o
  | [] => h
  | x :: l => .same x (h.app l)

theorem lex_app {a b : List Nat} (h : a < b) (hl : a.length = b.length) (x y : List Nat) : a ++ x < b ++ y := by
  have h' : List.Lex (· < ·) a b := h
  show List.Lex (· < ·) (a ++ x) (b ++ y)
  clear h
  induction h' with
  | nil => simp at hl
  | rel h => exact .rel h
  | cons h ih => exact .cons (ih (by simpa using hl))
theorem lex_same (a : List Nat) {x y : List Nat} (h : x < y) : a ++ x < a ++ y := by
  induction a with
  | nil => exact h
  | cons c a ih => exact List.Lex.cons ih
theorem hexd_lex : ∀ n m : Nat, (hexd n).length = (hexd m).length → n < m → hexd n < hexd m := by
  intro n
  induction n using Nat.strongRecOn with
  | ind n ih =>
    intro m hl h
    have hm : m ≠ 0 := by omega
    by_cases hn : n = 0
    · subst hn
      rw [hexd_zero, hexd_pos hm] at hl
      simp at hl
    · rw [hexd_pos hn, hexd_pos hm] at hl ⊢
      have hl' : (hexd (n / 16)).length = (hexd (m / 16)).length := by simpa using hl
      by_cases q : n / 16 = m / 16
      · rw [q]
        exact lex_same _ (List.Lex.rel (by omega))
      · exact lex_app (ih (n / 16) (by omega) (m / 16) hl' (by omega)) hl' _ _
theorem lex_up {a b : List Nat} (h : a < b) : a.map (65 + ·) < b.map (65 + ·) := by
  have h' : List.Lex (· < ·) a b := h
  show List.Lex (· < ·) _ _
  clear h
  induction h' with
  | nil => exact .nil
  | rel h => exact .rel (by simpa using h)
  | cons h ih => exact .cons ih
theorem lex_dn {a b : List Nat} (h : a < b) (hl : a.length = b.length) (hb : ∀ d ∈ b, d < 16) : b.map (80 - ·) < a.map (80 - ·) := by
  have h' : List.Lex (· < ·) a b := h
  show List.Lex (· < ·) _ _
  clear h
  induction h' with
  | nil => simp at hl
  | @rel x xs y ys h => exact .rel (by have := hb y (.head _); simp only; omega)
  | cons h ih => exact .cons (ih (by simpa using hl) fun d hd => hb d (.tail _ hd))
theorem hl_mono {n m : Nat} (h : n ≤ m) : (hexd n).length ≤ (hexd m).length := hexd_length_le n _ (Nat.lt_of_le_of_lt h (hexd_lt_pow m))
theorem up_lt {q r : Int} (h0 : 0 ≤ q) (h : q < r) (he : hl q = hl r) : upL q < upL r := lex_up (hexd_lex _ _ he (by omega))
theorem dn_lt {q r : Int} (h : q.natAbs < r.natAbs) (he : hl q = hl r) : dnL r < dnL q := lex_dn (hexd_lex _ _ he h) he fun _ hd => hexd_lt hd

/-- the first differing quotient tells -/
theorem head_lt (p : Nat) {q r : Int} (X Y : List It) (h : q < r) (hp : p = 0 ∨ 1 ≤ q) : CmpI (toldAt p q ++ X) (toldAt p r ++ Y) (if p % 2 = 0 then .lt else .gt) := by
  have hpos : ∀ {x : Int}, x ≠ 0 → 0 < hl x := fun {x} hx => by
    unfold hl; rw [hexd_pos (by omega)]; simp
  unfold toldAt isUp
  by_cases hev : p % 2 = 0
  · rw [if_pos hev]
    simp only [hev, beq_self_eq_true, Bool.true_and, decide_eq_true_eq]
    by_cases hq : 0 ≤ q
    · rw [if_pos hq, if_pos (by omega)]
      refine .same _ ?_
      have hle : hl q ≤ hl r := hl_mono (by omega)
      by_cases he : hl q = hl r
      · rw [he]
        refine .same _ ?_
        have hr := hpos (x := r) (by omega)
        unfold wordUp
        rw [he, if_pos hr, if_pos hr]
        exact .same _ (.tlt _ _ (up_lt hq h he))
      · exact .nlt _ _ (by omega)
    · rw [if_neg hq, if_pos (by omega)]
      have hp0 : p = 0 := by omega
      by_cases hr : 0 ≤ r
      · rw [if_pos hr]
        exact .nlt _ _ (by decide)
      · rw [if_neg hr, if_pos (by omega)]
        refine .same _ (.same _ (.same _ ?_))
        have hle : hl r ≤ hl q := hl_mono (by omega)
        by_cases he : hl q = hl r
        · rw [he]
          refine .same _ ?_
          have hr := hpos (x := r) (by omega)
          unfold wordDn
          rw [he, if_pos hr, if_pos hr]
          exact .same _ (.tlt _ _ (dn_lt (by omega) he.symm))
        · exact .nlt _ _ (by omega)
  · rw [if_neg hev]
    have h1 : 1 ≤ q := by omega
    have e : (p % 2 == 0) = false := by simpa using hev
    simp only [e, Bool.false_and, Bool.false_eq_true, if_false]
    rw [if_neg (by omega), if_neg (by omega)]
    refine .same _ ?_
    have hle : hl q ≤ hl r := hl_mono (by omega)
    by_cases he : hl q = hl r
    · rw [he]
      refine .same _ ?_
      have hr := hpos (x := r) (by omega)
      unfold wordDn
      rw [he, if_pos hr, if_pos hr]
      exact .same _ (.tgt _ _ (dn_lt (by omega) he))
    · exact .ngt _ _ (by omega)

def cmpZ (x y : Int) : Ordering := if x < y then .lt else if x = y then .eq else .gt
theorem cmpZ_swap (x y : Int) : (cmpZ x y).swap = cmpZ y x := by
  unfold cmpZ
  by_cases h1 : x < y
  · rw [if_pos h1, if_neg (by omega), if_neg (by omega)]; rfl
  · by_cases h2 : x = y
    · rw [if_neg h1, if_pos h2, if_neg (by omega), if_pos h2.symm]; rfl
    · rw [if_neg h1, if_neg h2, if_pos (by omega)]; rfl
theorem cmpZ_lt {x y : Int} (h : x < y) : cmpZ x y = .lt := by unfold cmpZ; rw [if_pos h]
theorem cmpZ_gt {x y : Int} (h : y < x) : cmpZ x y = .gt := by unfold cmpZ; rw [if_neg (by omega), if_neg (by omega)]
theorem cmpZ_add (k x y : Int) : cmpZ (k + x) (k + y) = cmpZ x y := by
  unfold cmpZ
  by_cases h1 : x < y
  · rw [if_pos h1, if_pos (by omega)]
  · by_cases h2 : x = y
    · rw [if_neg h1, if_pos h2, if_neg (by omega), if_pos (by omega)]
    · rw [if_neg h1, if_neg h2, if_neg (by omega), if_neg (by omega)]
def ordAt (p : Nat) (x y : Int) : Ordering := if p % 2 = 0 then cmpZ x y else cmpZ y x
theorem ordAt_swap (p : Nat) (x y : Int) : (ordAt p x y).swap = ordAt p y x := by
  unfold ordAt; split <;> exact cmpZ_swap _ _
theorem ordAt_next (p : Nat) (x y : Int) : ordAt (p + 1) x y = ordAt p y x := by
  unfold ordAt
  by_cases h : p % 2 = 0
  · rw [if_pos h, if_neg (by omega)]
  · rw [if_neg h, if_pos (by omega)]

def toldTo (p : Nat) (row : List Int) : List It := toldFrom p row ++ lastTold (p + row.length)
theorem toldTo_cons (p : Nat) (q : Int) (r : List Int) : toldTo p (q :: r) = toldAt p q ++ toldTo (p + 1) r := by
  unfold toldTo
  rw [toldFrom, List.append_assoc, List.length_cons, show p + (r.length + 1) = p + 1 + r.length by omega]
theorem toldTo_nil (p : Nat) : toldTo p [] = lastTold p := by simp [toldTo, toldFrom]
theorem told_to (row : List Int) : told row = toldTo 0 row := by unfold told toldTo; rw [Nat.zero_add]

/-- one row ends where the other goes on -/
theorem end_cmp (p : Nat) {q : Int} (r : List Int) (hq : 1 ≤ q) (hp : p ≠ 0) : CmpI (toldTo p []) (toldTo p (q :: r)) (if p % 2 = 0 then .gt else .lt) := by
  rw [toldTo_nil, toldTo_cons]
  have hh : ∃ i Z, toldAt p q = .n 100 :: .n i :: Z := by
    unfold toldAt
    split
    · exact ⟨_, _, rfl⟩
    · rw [if_neg (by omega)]; exact ⟨_, _, rfl⟩
  obtain ⟨i, Z, e⟩ := hh
  rw [e]
  unfold lastTold
  by_cases hev : p % 2 = 0
  · rw [if_pos hev, if_pos hev]
    exact .ngt _ _ (by decide)
  · rw [if_neg hev, if_neg hev]
    exact .short _ _

theorem ord_aux : ∀ (n : Nat) (p : Nat) (a b c d : Int), 0 < b → 0 < d → b.toNat + d.toNat ≤ n → (p = 0 ∨ (b ≤ a ∧ d ≤ c)) →
    CmpI (toldTo p (quots a b)) (toldTo p (quots c d)) (ordAt p (a * d) (c * b)) := by
  intro n
  induction n with
  | zero => intro p a b c d hb hd hn; omega
  | succ n ih =>
    intro p a b c d hb hd hn hp
    have ea := Int.mul_ediv_add_emod a b
    have ec := Int.mul_ediv_add_emod c d
    have ra0 := Int.emod_nonneg a (Int.ne_of_gt hb)
    have ra1 := Int.emod_lt_of_pos a hb
    have rc0 := Int.emod_nonneg c (Int.ne_of_gt hd)
    have rc1 := Int.emod_lt_of_pos c hd
    have hq1 : p = 0 ∨ (1 ≤ a / b ∧ 1 ≤ c / d) := by
      rcases hp with hp | ⟨h1, h2⟩
      · exact .inl hp
      · exact .inr ⟨(Int.le_ediv_iff_mul_le hb).mpr (by omega), (Int.le_ediv_iff_mul_le hd).mpr (by omega)⟩
    rw [quots_pos hb, quots_pos hd, toldTo_cons, toldTo_cons]
    generalize hq : a / b = q at *
    generalize hr : c / d = q' at *
    generalize hra : a % b = r at *
    generalize hrc : c % d = r' at *
    -- the products, by the quotients
    have e1 : a * d = q * (b * d) + r * d := by rw [← ea, Int.add_mul, Int.mul_assoc, Int.mul_left_comm]
    have e2 : c * b = q' * (b * d) + r' * b := by rw [← ec, Int.add_mul]; congr 1; rw [Int.mul_comm d q', Int.mul_assoc, Int.mul_comm d b]
    have hbd : 0 < b * d := Int.mul_pos hb hd
    have s1 : 0 ≤ r * d := Int.mul_nonneg ra0 (Int.le_of_lt hd)
    have s2 : r * d < b * d := Int.mul_lt_mul_of_pos_right ra1 hd
    have s3 : 0 ≤ r' * b := Int.mul_nonneg rc0 (Int.le_of_lt hb)
    have s4 : r' * b < b * d := by rw [Int.mul_comm b d]; exact Int.mul_lt_mul_of_pos_right rc1 hb
    have far : ∀ x y : Int, x < y → x * (b * d) + b * d ≤ y * (b * d) := by
      intro x y hxy
      have : (x + 1) * (b * d) ≤ y * (b * d) := Int.mul_le_mul_of_nonneg_right (by omega) (Int.le_of_lt hbd)
      rw [Int.add_mul, Int.one_mul] at this
      exact this
    rcases Int.lt_trichotomy q q' with hlt | heq | hgt
    · have hf := far q q' hlt
      have hcm : a * d < c * b := by omega
      have ho : ordAt p (a * d) (c * b) = if p % 2 = 0 then .lt else .gt := by
        unfold ordAt
        split
        · exact cmpZ_lt hcm
        · exact cmpZ_gt hcm
      rw [ho]
      exact head_lt p _ _ hlt (by omega)
    · subst heq
      refine CmpI.app ?_ _
      have ho : ordAt p (a * d) (c * b) = ordAt p (r * d) (r' * b) := by
        rw [e1, e2]; unfold ordAt; rw [cmpZ_add, cmpZ_add]
      rw [ho]
      by_cases hr0 : 0 < r
      · by_cases hr0' : 0 < r'
        · have := ih (p + 1) b r d r' hr0 hr0' (by omega) (.inr ⟨by omega, by omega⟩)
          rw [ordAt_next] at this
          rw [Int.mul_comm r d, Int.mul_comm r' b]
          exact this
        · rw [quots_neg hr0', quots_pos hr0]
          have hz : r' = 0 := by omega
          have := (end_cmp (p + 1) (q := b / r) (quots r (b % r)) ((Int.le_ediv_iff_mul_le hr0).mpr (by omega)) (by omega)).symm
          have hpos : 0 < r * d := Int.mul_pos hr0 hd
          rw [hz, Int.zero_mul]
          have ho2 : ordAt p (r * d) 0 = (if (p + 1) % 2 = 0 then Ordering.gt else Ordering.lt).swap := by
            unfold ordAt
            by_cases hev : p % 2 = 0
            · rw [if_pos hev, if_neg (by omega), cmpZ_gt hpos]; rfl
            · rw [if_neg hev, if_pos (by omega), cmpZ_lt hpos]; rfl
          rw [ho2]; exact this
      · have hz : r = 0 := by omega
        by_cases hr0' : 0 < r'
        · rw [quots_neg hr0, quots_pos hr0']
          have := end_cmp (p + 1) (q := d / r') (quots r' (d % r')) ((Int.le_ediv_iff_mul_le hr0').mpr (by omega)) (by omega)
          have hpos : 0 < r' * b := Int.mul_pos hr0' hb
          rw [hz, Int.zero_mul]
          have ho2 : ordAt p 0 (r' * b) = (if (p + 1) % 2 = 0 then Ordering.gt else Ordering.lt) := by
            unfold ordAt
            by_cases hev : p % 2 = 0
            · rw [if_pos hev, if_neg (by omega), cmpZ_lt hpos]
            · rw [if_neg hev, if_pos (by omega), cmpZ_gt hpos]
          rw [ho2]; exact this
        · have hz' : r' = 0 := by omega
          rw [quots_neg hr0, quots_neg hr0', hz, hz', Int.zero_mul, Int.zero_mul, toldTo_nil]
          have ho2 : ordAt p 0 0 = .eq := by unfold ordAt cmpZ; simp
          rw [ho2]
          have := CmpI.nil.app (lastTold (p + 1))
          rwa [List.append_nil] at this
    · have hf := far q' q hgt
      have hcm : c * b < a * d := by omega
      have ho : ordAt p (a * d) (c * b) = (if p % 2 = 0 then Ordering.lt else Ordering.gt).swap := by
        unfold ordAt
        split
        · exact cmpZ_gt hcm
        · exact cmpZ_lt hcm
      rw [ho]
      exact (head_lt p _ _ hgt (by omega)).symm

/-- the told rows of two fractions stand as the fractions do -/
theorem ord_told {a b c d : Int} (hb : 0 < b) (hd : 0 < d) : CmpI (told (quots a b)) (told (quots c d)) (cmpZ (a * d) (c * b)) := by
  rw [told_to, told_to]
  have := ord_aux _ 0 a b c d hb hd (Nat.le_refl _) (.inl rfl)
  unfold ordAt at this
  rwa [if_pos (by decide)] at this

theorem quots_all : ∀ (n : Nat) (a b : Int), 0 ≤ b → b.toNat ≤ n → -20000 < a → a < 20000 → b < 20000 → ((quots a b).length ≤ b.toNat ∧ ∀ q ∈ quots a b, -20001 < q ∧ q < 20000) := by
  intro n
  induction n with
  | zero =>
    intro a b h0 hn h1 h2 h3
    rw [quots_neg (by omega)]; simp
  | succ n ih =>
    intro a b h0 hn h1 h2 h3
    by_cases hb : 0 < b
    · rw [quots_pos hb]
      have r0 := Int.emod_nonneg a (Int.ne_of_gt hb)
      have r1 := Int.emod_lt_of_pos a hb
      have ea := Int.mul_ediv_add_emod a b
      obtain ⟨i1, i2⟩ := ih b (a % b) r0 (by omega) (by omega) h3 (by omega)
      have hq : -20001 < a / b ∧ a / b < 20000 := by
        constructor
        · exact Int.lt_of_lt_of_le (by omega) ((Int.le_ediv_iff_mul_le hb).mpr (show -20000 * b ≤ a by omega))
        · exact Int.ediv_lt_of_lt_mul hb (by omega)
      refine ⟨by rw [List.length_cons]; omega, fun q hq' => ?_⟩
      rcases List.mem_cons.mp hq' with rfl | hq'
      · exact hq
      · exact i2 q hq'
    · rw [quots_neg hb]; simp
end Mine
end

section -- PlS
open PySem PySem.W PyProof.Rows PySem.NumText
namespace Mine
set_option maxRecDepth 100000
set_option maxHeartbeats 1000000

/-- what a piece of the split text tells -/
def tell : List Nat → List It
  | [] => []
  | c :: r => if isSep c = true ∧ r = [] then [] else if isDig c = true then [.n 100, .n (digitsVal (c :: r))] else [.n (stg (c :: r) : Nat), .t (c :: r)]

theorem tell_cons (c : Nat) (r : List Nat) : tell (c :: r) = if isSep c = true ∧ r = [] then [] else if isDig c = true then [.n 100, .n (digitsVal (c :: r))] else [.n (stg (c :: r) : Nat), .t (c :: r)] := rfl
def Ok (p : List Nat) : Prop := p.length ≤ 600 ∧ Piece p (tell p)

def joinC (c : Nat) : List (List Nat) → List Nat
  | [] => []
  | [p] => p
  | p :: q :: r => p ++ c :: joinC c (q :: r)

/-- words without figures or marks -/
def Plain (w : List Nat) : Prop := (∀ d ∈ w, 65 ≤ d ∧ d ≤ 80) ∨ w = [100, 101, 118] ∨ w = [112, 108]

theorem tok_letter {d : Nat} (h : 65 ≤ d ∧ d ≤ 80) : isTok d = false := by
  unfold isTok isDig isSep
  have h1 : ¬ (d ≤ 57) := by omega
  have h2 : d ≠ 43 ∧ d ≠ 45 ∧ d ≠ 46 ∧ d ≠ 95 := by omega
  simp [h1, h2]
theorem Plain.tok {w : List Nat} (h : Plain w) : ∀ d ∈ w, isTok d = false := by
  rcases h with h | rfl | rfl
  · exact fun d hd => tok_letter (h d hd)
  · decide
  · decide
theorem Plain.ok {w : List Nat} (h : Plain w) (hl : w.length ≤ 600) : Ok w ∧ tell w = if w = [] then [] else [.n (stg w : Nat), .t w] := by
  cases w with
  | nil => exact ⟨⟨hl, .nil⟩, rfl⟩
  | cons c r =>
    have hc := h.tok c (.head _)
    unfold isTok at hc
    rw [Bool.or_eq_false_iff] at hc
    have e : tell (c :: r) = [.n (stg (c :: r) : Nat), .t (c :: r)] := by
      rw [tell_cons, if_neg (by rw [hc.2]; simp), if_neg (by rw [hc.1]; simp)]
    refine ⟨⟨hl, ?_⟩, by rw [if_neg (by simp)]; exact e⟩
    rw [e]
    rcases h with h | h | h
    · rw [stg_word h]; exact .word h
    · rw [h]; exact .dev
    · rw [h]; exact .pl
theorem digs_ok {n : Nat} (h : n < 100) : Ok (digs n) ∧ tell (digs n) = [.n 100, .n n] := by
  have hd : ∀ c ∈ digs n, isDig c = true := fun c hc => by
    have := digs_all h c hc
    unfold isDig; simp; omega
  obtain ⟨c, r, e, _⟩ := digs_ne n
  have hc := hd c (by rw [e]; exact .head _)
  have hns : isSep c = false := by
    have := digs_all h c (by rw [e]; exact .head _)
    unfold isSep
    have h2 : c ≠ 43 ∧ c ≠ 45 ∧ c ≠ 46 ∧ c ≠ 95 := by omega
    simp [h2]
  have e2 : tell (digs n) = [.n 100, .n n] := by
    have hv := digs_val h
    rw [e] at hv ⊢
    rw [tell_cons, if_neg (by rw [hns]; simp), if_pos hc, hv]
  refine ⟨⟨?_, by rw [e2]; exact .num h⟩, e2⟩
  unfold digs; split <;> simp

/-- what is told behind a part -/
def TailOk (c : Nat) (rest : List Nat) (its : List It) : Prop :=
  (rest = [] ∧ its = []) ∨ ∃ r, rest = c :: r ∧ (∀ p ∈ spl [] false r, Ok p) ∧ (spl [] false r).flatMap tell = its

theorem sep_dig {c : Nat} (h : isSep c = true) : isDig c = false := by
  unfold isSep at h
  simp only [Bool.or_eq_true, beq_iff_eq] at h
  unfold isDig
  have : ¬ (48 ≤ c) ∨ ¬ (c ≤ 57) := by omega
  rcases this with q | q <;> simp [q]
theorem sep_ok {c : Nat} (h : isSep c = true) : Ok [c] ∧ tell [c] = [] := by
  have e : tell [c] = [] := by rw [tell_cons, if_pos ⟨h, rfl⟩]
  exact ⟨⟨by simp, by rw [e]; exact .sep h⟩, e⟩
theorem word_tail {c : Nat} {w rest : List Nat} {its : List It} (hc : isSep c = true) (h : Plain w) (hl : w.length ≤ 600) (ht : TailOk c rest its) :
    (∀ p ∈ spl [] false (w ++ rest), Ok p) ∧ (spl [] false (w ++ rest)).flatMap tell = (if w = [] then [] else [.n (stg w : Nat), .t w]) ++ its := by
  obtain ⟨h1, h2⟩ := h.ok hl
  rw [spl_text rest w [] h.tok, List.nil_append, ← h2]
  rcases ht with ⟨rfl, rfl⟩ | ⟨r, rfl, h3, h4⟩
  · simp only [spl, Bool.false_eq_true, if_false]
    exact ⟨fun p hp => by rw [List.mem_singleton.mp hp]; exact h1, by simp⟩
  · obtain ⟨h5, h6⟩ := sep_ok hc
    rw [spl_sep (sep_dig hc) hc]
    refine ⟨fun p hp => ?_, ?_⟩
    · rcases List.mem_cons.mp hp with rfl | hp
      · exact h1
      · rcases List.mem_cons.mp hp with rfl | hp
        · exact h5
        · exact h3 p hp
    · simp only [List.flatMap_cons, h6, h4, List.nil_append]
theorem num_tail {c n : Nat} {w rest : List Nat} {its : List It} (hc : isSep c = true) (hn : n < 100) (h : ∀ d ∈ w, 65 ≤ d ∧ d ≤ 80) (hl : w.length ≤ 600) (ht : TailOk c rest its) :
    (∀ p ∈ spl [] false (digs n ++ w ++ rest), Ok p) ∧ (spl [] false (digs n ++ w ++ rest)).flatMap tell = [.n 100, .n n] ++ (if w = [] then [] else [.n 0, .t w]) ++ its := by
  obtain ⟨h1, h2⟩ := digs_ok hn
  obtain ⟨h3, h4⟩ := word_tail hc (.inl h) hl ht
  obtain ⟨d, r, e, _⟩ := digs_ne n
  have hd : ∀ x ∈ digs n, isDig x = true := fun x hx => by
    have := digs_all hn x hx
    unfold isDig; simp; omega
  have hhead : ∀ x, (w ++ rest).head? = some x → isDig x = false := by
    intro x hx
    cases w with
    | cons y w =>
      simp at hx; subst hx
      have := tok_letter (h y (.head _))
      unfold isTok at this
      rw [Bool.or_eq_false_iff] at this
      exact this.1
    | nil =>
      rcases ht with ⟨rfl, rfl⟩ | ⟨r, rfl, _, _⟩
      · simp at hx
      · simp at hx; subst hx; exact sep_dig hc
  have e2 : spl [] false (digs n ++ w ++ rest) = [] :: digs n :: spl [] false (w ++ rest) := by
    rw [List.append_assoc, e, List.cons_append, spl, hd d (by rw [e]; exact .head _)]
    simp only [Bool.false_eq_true, if_false, if_true]
    rw [spl_run (w ++ rest) hhead r _ (fun x hx => hd x (by rw [e]; exact .tail _ hx))]
    rfl
  rw [e2]
  refine ⟨fun p hp => ?_, ?_⟩
  · rcases List.mem_cons.mp hp with rfl | hp
    · exact ⟨by simp, .nil⟩
    · rcases List.mem_cons.mp hp with rfl | hp
      · exact h1
      · exact h3 p hp
  · simp only [List.flatMap_cons, h2, h4]
    have e3 : (if w = [] then [] else [It.n (stg w : Nat), .t w]) = (if w = [] then [] else [It.n 0, .t w]) := by
      cases w with
      | nil => rfl
      | cons y w => rw [stg_word h]; rfl
    rw [e3]
    simp [tell]

inductive PartOk : List Nat → List It → Prop
  | text {w : List Nat} : Plain w → w ≠ [] → w.length ≤ 6 → PartOk w [.n (stg w : Nat), .t w]
  | num {n : Nat} {w : List Nat} : n < 100 → (∀ d ∈ w, 65 ≤ d ∧ d ≤ 80) → w.length ≤ 4 → PartOk (digs n ++ w) ([.n 100, .n n] ++ (if w = [] then [] else [.n 0, .t w]))
inductive PartsOk : List (List Nat) → List It → Prop
  | nil : PartsOk [] []
  | cons {p : List Nat} {ps : List (List Nat)} {a b : List It} : PartOk p a → PartsOk ps b → PartsOk (p :: ps) (a ++ b)
theorem PartsOk.append {ps qs : List (List Nat)} {a b : List It} (h : PartsOk ps a) (k : PartsOk qs b) : PartsOk (ps ++ qs) (a ++ b) := by
  induction h with
  | nil => exact k
  | cons h _ ih => rw [List.cons_append, List.append_assoc]; exact .cons h ih
theorem PartOk.one {p : List Nat} {a : List It} (h : PartOk p a) : PartsOk [p] a := by
  have := PartsOk.cons h .nil
  rwa [List.append_nil] at this
theorem PartOk.len {p : List Nat} {a : List It} (h : PartOk p a) : p.length ≤ 6 := by
  cases h with
  | text _ _ h => exact h
  | num _ _ h =>
    rw [List.length_append]
    have : ∀ n, (digs n).length ≤ 2 := fun n => by unfold digs; split <;> simp
    have := this ‹Nat›
    omega
theorem part_tail {c : Nat} {p rest : List Nat} {a its : List It} (hc : isSep c = true) (h : PartOk p a) (ht : TailOk c rest its) :
    (∀ q ∈ spl [] false (p ++ rest), Ok q) ∧ (spl [] false (p ++ rest)).flatMap tell = a ++ its := by
  cases h with
  | text h hn hl =>
    have := word_tail hc h (by omega) ht
    rwa [if_neg hn] at this
  | num hn h hl => exact num_tail hc hn h (by omega) ht
theorem parts_told {c : Nat} (hc : isSep c = true) {ps : List (List Nat)} {a : List It} (h : PartsOk ps a) :
    (∀ q ∈ spl [] false (joinC c ps), Ok q) ∧ (spl [] false (joinC c ps)).flatMap tell = a := by
  induction h with
  | nil => exact ⟨fun p hp => by simp [joinC, spl] at hp; subst hp; exact ⟨by simp, .nil⟩, by simp [joinC, spl, tell]⟩
  | @cons p ps a b hp hps ih =>
    cases ps with
    | nil =>
      cases hps
      have := part_tail hc hp (rest := []) (its := []) (.inl ⟨rfl, rfl⟩)
      simpa [joinC] using this
    | cons q r => exact part_tail hc hp (.inr ⟨_, rfl, ih.1, ih.2⟩)
theorem join_len {c : Nat} {ps : List (List Nat)} {a : List It} (h : PartsOk ps a) : (joinC c ps).length ≤ 7 * ps.length := by
  induction h with
  | nil => simp [joinC]
  | @cons p ps a b hp hps ih =>
    have := hp.len
    cases ps with
    | nil => simp [joinC]; omega
    | cons q r => simp only [joinC, List.length_append, List.length_cons] at ih ⊢; omega
theorem spl_len (l : List Nat) : ∀ acc dig, (spl acc dig l).length ≤ 3 * l.length + 2 := by
  induction l with
  | nil => intro acc dig; unfold spl; split <;> simp
  | cons c r ih =>
    intro acc dig
    have h1 := ih (acc ++ [c]) true
    have h2 := ih [] false
    have h3 := ih [c] false
    have h4 := ih [c] true
    have h5 := ih (acc ++ [c]) false
    unfold spl
    (repeat' split) <;> simp only [List.length_cons] <;> omega
theorem joinC_eq (c : Nat) : ∀ ps : List (List Nat), Txt.join (strOf [c]) (ps.map strOf) = strOf (joinC c ps) := by
  intro ps
  rw [join_eq]
  induction ps with
  | nil => rfl
  | cons p ps ih =>
    cases ps with
    | nil => simp [Str.join, joinC]
    | cons q r =>
      rw [List.map_cons, List.map_cons, Str.join]
      · rw [← List.map_cons (f := strOf), ih, strOf_append, strOf_append, joinC]; simp
      · simp

theorem let_up {q : Int} : ∀ d ∈ upL q, 65 ≤ d ∧ d ≤ 80 := by
  intro d hd
  unfold upL at hd
  obtain ⟨x, hx, rfl⟩ := List.mem_map.mp hd
  have := hexd_lt hx; omega
theorem let_dn {q : Int} : ∀ d ∈ dnL q, 65 ≤ d ∧ d ≤ 80 := by
  intro d hd
  unfold dnL at hd
  obtain ⟨x, hx, rfl⟩ := List.mem_map.mp hd
  have := hexd_lt hx; omega
theorem hl_le {q : Int} (h : -65536 < q ∧ q < 65536) : hl q ≤ 4 := hexd_length_le _ 4 (by omega)
theorem partsAt_ok (p : Nat) {q : Int} (h : -65536 < q ∧ q < 65536) : PartsOk (partsAt p q) (toldAt p q) := by
  have h4 := hl_le h
  have eu : (upL q = []) ↔ ¬ 0 < hl q := by unfold upL hl; cases hexd q.natAbs <;> simp
  have ed : (dnL q = []) ↔ ¬ 0 < hl q := by unfold dnL hl; cases hexd q.natAbs <;> simp
  unfold partsAt toldAt
  split
  · have z : PartOk (partUp q) ([.n 100, .n (hl q)] ++ wordUp q) := by
      have := PartOk.num (n := hl q) (w := upL q) (by omega) let_up (by unfold upL; rw [List.length_map]; exact h4)
      unfold wordUp
      by_cases hz : 0 < hl q
      · rw [if_neg (by rw [eu]; omega)] at this
        rw [if_pos hz]; exact this
      · rw [if_pos (by rw [eu]; omega)] at this
        rw [if_neg hz]; exact this
    exact z.one
  · have z : PartOk (partDn q) ([.n 100, .n (64 - hl q)] ++ wordDn q) := by
      have := PartOk.num (n := 64 - hl q) (w := dnL q) (by omega) let_dn (by unfold dnL; rw [List.length_map]; exact h4)
      have e : (((64 - hl q : Nat) : Int)) = 64 - (hl q : Int) := by omega
      rw [e] at this
      unfold wordDn
      by_cases hz : 0 < hl q
      · rw [if_neg (by rw [ed]; omega)] at this
        rw [if_pos hz]; exact this
      · rw [if_pos (by rw [ed]; omega)] at this
        rw [if_neg hz]; exact this
    have hdv : PartsOk (if q < 0 then [[100, 101, 118]] else []) (if q < 0 then [.n 10, .t [100, 101, 118]] else []) := by
      split
      · exact (PartOk.text (w := [100, 101, 118]) (.inr (.inl rfl)) (by simp) (by simp)).one
      · exact .nil
    rw [List.append_assoc]
    exact hdv.append z.one
theorem partsFrom_ok : ∀ (row : List Int) (p : Nat), (∀ q ∈ row, -65536 < q ∧ q < 65536) → PartsOk (partsFrom p row) (toldFrom p row)
  | [], _, _ => .nil
  | q :: r, p, h => (partsAt_ok p (h q (.head _))).append (partsFrom_ok r (p + 1) fun x hx => h x (.tail _ hx))
theorem parts_ok {row : List Int} (h : ∀ q ∈ row, -65536 < q ∧ q < 65536) : PartsOk (parts row) (told row) := by
  unfold parts told
  refine (partsFrom_ok row 0 h).append ?_
  unfold lastPart lastTold
  split
  · exact (PartOk.text (w := [112, 108]) (.inr (.inr rfl)) (by simp) (by simp)).one
  · exact .nil
theorem partsFromCount : ∀ (row : List Int) (p : Nat), (partsFrom p row).length ≤ 2 * row.length
  | [], _ => by simp [partsFrom]
  | q :: r, p => by
    have h1 := partsFromCount r (p + 1)
    have h2 : (partsAt p q).length ≤ 2 := by
      unfold partsAt
      (repeat' split) <;> simp
    simp only [partsFrom, List.length_append, List.length_cons]; omega
theorem partsCount (row : List Int) : (parts row).length ≤ 2 * row.length + 1 := by
  have := partsFromCount row 0
  unfold parts lastPart
  rw [List.length_append]
  split <;> simp <;> omega

/-- the release of a row, split and told -/
theorem release_told {c : Nat} (hc : isSep c = true) {row : List Int} (h : ∀ q ∈ row, -65536 < q ∧ q < 65536) (hl : row.length ≤ 1000) :
    ∃ x : List Nat, Txt.join (strOf [c]) ((parts row).map strOf) = strOf x ∧ x.length ≤ 100000 ∧ (spl [] false x).length ≤ 100000 ∧
      (∀ p ∈ spl [] false x, p.length ≤ 600 ∧ Piece p (tell p)) ∧ (spl [] false x).flatMap tell = told row := by
  obtain ⟨h1, h2⟩ := parts_told hc (parts_ok h)
  have h3 := join_len (c := c) (parts_ok h)
  have h4 := partsCount row
  have h5 := spl_len (joinC c (parts row)) [] false
  exact ⟨_, joinC_eq c _, by omega, by omega, h1, h2⟩
end Mine
end

section -- LawB
open PySem PySem.W PyProof.Rows
namespace Mine
set_option maxRecDepth 100000

def tup (a b : Int) (ta tb : Tok) : Obj := { cls := .type "tuple", data := .seq #[.int a ta, .int b tb] 0 }

/-- the tuples of the list pairs, in order, lie in the ledger -/
inductive Pairs (ts : List (Addr × Obj)) : List Value → List (Int × Int) → Prop
  | nil : Pairs ts [] []
  | cons {us : List Value} {ps : List (Int × Int)} (t : Addr) (a b : Int) (ta tb : Tok) : (t, tup a b ta tb) ∈ ts → Pairs ts us ps → Pairs ts (.ref t :: us) ((a, b) :: ps)
theorem Pairs.mono {ts ts' : List (Addr × Obj)} {us : List Value} {ps : List (Int × Int)} (h : Pairs ts us ps) (k : ∀ p ∈ ts, p ∈ ts') : Pairs ts' us ps := by
  induction h with
  | nil => exact .nil
  | cons t a b x y h _ ih => exact .cons t a b x y (k _ h) ih
theorem Pairs.snoc {ts : List (Addr × Obj)} {us : List Value} {ps : List (Int × Int)} (h : Pairs ts us ps) (t : Addr) (a b : Int) (ta tb : Tok) (ht : (t, tup a b ta tb) ∈ ts) : Pairs ts (us ++ [.ref t]) (ps ++ [(a, b)]) := by
  induction h with
  | nil => exact .cons _ _ _ _ _ ht .nil
  | cons t' a' b' x y h _ ih => exact .cons _ _ _ _ _ h ih
theorem Pairs.len {ts : List (Addr × Obj)} {us : List Value} {ps : List (Int × Int)} (h : Pairs ts us ps) : us.length = ps.length := by
  induction h with
  | nil => rfl
  | cons _ _ _ _ _ _ _ ih => simp [ih]

/-- a list of tuples of two ints in a heap -/
def PairsAt (h : Heap) (lp : Addr) (us : Array Value) (ps : List (Int × Int)) : Prop :=
  h.IsList lp us ∧ us.size = ps.length ∧ ∀ (i : Nat) (a b : Int), ps[i]? = some (a, b) → ∃ t ta tb, us[i]? = some (Value.ref t) ∧ h.IsTuple t #[.int a ta, .int b tb]
theorem Pairs.inHeap {h : Heap} {ts : List (Addr × Obj)} {us : List Value} {ps : List (Int × Int)} (P : Pairs ts us ps) (ht : ∀ p ∈ ts, h.get? p.1 = some p.2) :
    ∀ (i : Nat) (a b : Int), ps[i]? = some (a, b) → ∃ t ta tb, us[i]? = some (Value.ref t) ∧ h.IsTuple t #[.int a ta, .int b tb] := by
  induction P with
  | nil => intro i a b e; simp at e
  | cons t a' b' x y hm P ih =>
    intro i a b e
    cases i with
    | zero =>
      simp at e
      obtain ⟨rfl, rfl⟩ := e
      exact ⟨t, x, y, rfl, _, ht _ hm, rfl, 0, rfl⟩
    | succ i =>
      obtain ⟨t', u, v, h1, h2⟩ := ih i a b (by simpa using e)
      exact ⟨t', u, v, by simpa using h1, h2⟩
theorem PairsAt.keeps {h h' : Heap} {lp : Addr} {us : Array Value} {ps : List (Int × Int)} (P : PairsAt h lp us ps) (k : h.StaysIn h') : PairsAt h' lp us ps := by
  obtain ⟨⟨o, e, c, d⟩, p1, p2⟩ := P
  refine ⟨⟨o, k _ _ e, c, d⟩, p1, fun i a b e => ?_⟩
  obtain ⟨t, x, y, q1, o, q2, q3⟩ := p2 i a b e
  exact ⟨t, x, y, q1, o, k _ _ q2, q3⟩

theorem intItem : ∀ {vs : List Value} {ns : List Int}, IntsAre vs ns → ∀ (j : Nat) (v : Value), vs[j]? = some v → ∃ x t, v = Value.int x t ∧ ns[j]? = some x
  | _, _, .nil, _, _, h => by simp at h
  | _, _, .cons x t r, 0, v, h => by simp at h; subst h; exact ⟨x, t, rfl, rfl⟩
  | _, _, .cons x t r, j + 1, v, h => by simp at h; simpa using intItem r j v h

theorem allLt_mem {d : Addr} (l : List (Addr × Obj)) (h : AllLt d l) : ∀ p ∈ l, @LT.lt Nat _ p.1 d := by
  induction l with
  | nil => intro p hp; cases hp
  | cons x l ih =>
    intro p hp
    cases hp with
    | head => exact h.1
    | tail _ hp => exact ih h.2 p hp

theorem turn_news {h₀ h : Heap} {L t lp : Addr} {p1 p2 : Addr × Obj} {x ot : Obj} {ts : List (Addr × Obj)} (N : News h₀ L h ((t, ot) :: p1 :: p2 :: (lp, x) :: ts)) : News h₀ L h ([p1, p2] ++ (lp, x) :: (t, ot) :: ts) :=
  News.perm N fun p hp => by
    simp only [List.mem_cons, List.cons_append, List.nil_append] at hp ⊢
    rcases hp with hp | hp | hp | hp | hp
    · exact .inr (.inl hp)
    · exact .inr (.inr (.inl hp))
    · exact .inr (.inr (.inr (.inl hp)))
    · exact .inl hp
    · exact .inr (.inr (.inr (.inr hp)))

/-- the lists told, in order, lie in the ledger -/
inductive RowsIn (zs : List (Addr × Obj)) : List Value → List (Int × Int) → Prop
  | nil : RowsIn zs [] []
  | cons {us : List Value} {ps : List (Int × Int)} (D : Addr) (a b : Int) (vs : Array Value) (n : Nat) : (D, W.listOf vs n) ∈ zs → ItsAre vs.toList (told (quots a b)) → RowsIn zs us ps → RowsIn zs (.ref D :: us) ((a, b) :: ps)
theorem RowsIn.mono {ts ts' : List (Addr × Obj)} {us : List Value} {ps : List (Int × Int)} (h : RowsIn ts us ps) (k : ∀ p ∈ ts, p ∈ ts') : RowsIn ts' us ps := by
  induction h with
  | nil => exact .nil
  | cons t a b x y h i _ ih => exact .cons t a b x y (k _ h) i ih
theorem RowsIn.snoc {ts : List (Addr × Obj)} {us : List Value} {ps : List (Int × Int)} (h : RowsIn ts us ps) (D : Addr) (a b : Int) (vs : Array Value) (n : Nat) (ht : (D, W.listOf vs n) ∈ ts) (hi : ItsAre vs.toList (told (quots a b))) : RowsIn ts (us ++ [.ref D]) (ps ++ [(a, b)]) := by
  induction h with
  | nil => exact .cons _ _ _ _ _ ht hi .nil
  | cons t' a' b' x y h i _ ih => exact .cons _ _ _ _ _ h i ih
theorem RowsIn.len {ts : List (Addr × Obj)} {us : List Value} {ps : List (Int × Int)} (h : RowsIn ts us ps) : us.length = ps.length := by
  induction h with
  | nil => rfl
  | cons _ _ _ _ _ _ _ _ ih => simp [ih]
theorem RowsIn.item {ts : List (Addr × Obj)} {us : List Value} {ps : List (Int × Int)} (P : RowsIn ts us ps) :
    ∀ (i : Nat) (a b : Int), ps[i]? = some (a, b) → ∃ D vs n, us[i]? = some (Value.ref D) ∧ (D, W.listOf vs n) ∈ ts ∧ ItsAre vs.toList (told (quots a b)) := by
  induction P with
  | nil => intro i a b e; simp at e
  | cons D a' b' vs n hm hi P ih =>
    intro i a b e
    cases i with
    | zero =>
      simp at e
      obtain ⟨rfl, rfl⟩ := e
      exact ⟨D, vs, n, rfl, hm, hi⟩
    | succ i =>
      obtain ⟨D', v', n', h1, h2, h3⟩ := ih i a b (by simpa using e)
      exact ⟨D', v', n', by simpa using h1, h2, h3⟩

theorem pair_item {prog : Program} {w : World} {A : Around} {E : Value → Shared → Prop} {s : Shared} {h₀ : Heap} {L lp : Addr} {k : Nat} {news zs : List (Addr × Obj)} {us : Array Value} {ps : List (Int × Int)} {i : Nat} {a b : Int} {t : Tok} {value slice : Expr} {Q : Value → Shared → Prop}
    (N : News h₀ L s.heap news) (hsub : ∀ p ∈ zs, p ∈ news) (hlp : (lp, W.listOf us k) ∈ zs) (P : Pairs zs us.toList ps) (hab : ps[i]? = some (a, b)) (hi : i < 1000000)
    (h : ∀ t1 ta tb, IsTup s.heap t1 [Value.int a ta, Value.int b tb].toArray → Q (.ref t1) s)
    (hs : subscripted slice false (.ref lp) (.int (i : Int) t) = operate [.ref lp, .int (i : Int) t] (getItem (.ref lp) (.int (i : Int) t)) := by with_unfolding_all rfl) (hg : ∀ r, letTemporaryGo value (.ref lp) r = pure () := by intro _; with_unfolding_all rfl) :
    wpAny (model prog w) A (subscriptTail value slice (.ref lp) (.int (i : Int) t)) Q E s := by
  obtain ⟨t1, ta, tb, hu, hT⟩ := P.inHeap (h := s.heap) (fun p hp => (N p (hsub p hp)).1) i a b hab
  refine item_list (items := us) ⟨_, (N _ (hsub _ hlp)).1, rfl, k, rfl⟩ (by omega) (by omega) (x := .ref t1) ?_ (h t1 ta tb hT) hs hg
  simpa using hu
theorem row_item {prog : Program} {w : World} {A : Around} {E : Value → Shared → Prop} {s : Shared} {h₀ : Heap} {L ll : Addr} {k : Nat} {news zs : List (Addr × Obj)} {us : Array Value} {ps : List (Int × Int)} {i : Nat} {a b : Int} {t : Tok} {value slice : Expr} {Q : Value → Shared → Prop}
    (N : News h₀ L s.heap news) (hsub : ∀ p ∈ zs, p ∈ news) (hll : (ll, W.listOf us k) ∈ news) (P : RowsIn zs us.toList ps) (hab : ps[i]? = some (a, b)) (hi : i < 1000000)
    (h : ∀ D vs, s.heap.IsList D vs → ItsAre vs.toList (told (quots a b)) → Q (.ref D) s)
    (hs : subscripted slice false (.ref ll) (.int (i : Int) t) = operate [.ref ll, .int (i : Int) t] (getItem (.ref ll) (.int (i : Int) t)) := by with_unfolding_all rfl) (hg : ∀ r, letTemporaryGo value (.ref ll) r = pure () := by intro _; with_unfolding_all rfl) :
    wpAny (model prog w) A (subscriptTail value slice (.ref ll) (.int (i : Int) t)) Q E s := by
  obtain ⟨D, vs, n, hu, hm, hI⟩ := P.item i a b hab
  refine item_list (items := us) ⟨_, (N _ hll).1, rfl, k, rfl⟩ (by omega) (by omega) (x := .ref D) ?_ (h D vs ⟨_, (N _ (hsub _ hm)).1, rfl, n, rfl⟩ hI) hs hg
  simpa using hu

theorem turn_news2 {h₀ h : Heap} {L lt D lq ll : Addr} {pI : Addr × Obj} {x y z v : Obj} {zs : List (Addr × Obj)} (N : News h₀ L h ((lt, x) :: (D, y) :: (lq, z) :: pI :: (ll, v) :: zs)) : News h₀ L h ([pI] ++ (ll, v) :: (D, y) :: zs) :=
  News.perm N fun p hp => by
    simp only [List.mem_cons, List.cons_append, List.nil_append] at hp ⊢
    rcases hp with hp | hp | hp | hp
    · exact .inr (.inr (.inr (.inl hp)))
    · exact .inr (.inr (.inr (.inr (.inl hp))))
    · exact .inr (.inl hp)
    · exact .inr (.inr (.inr (.inr (.inr hp))))
theorem cmpZ_isLt (x y : Int) : (cmpZ x y == .lt) = decide (x < y) := by
  unfold cmpZ
  by_cases h1 : x < y
  · rw [if_pos h1, decide_eq_true h1]; rfl
  · by_cases h2 : x = y
    · rw [if_neg h1, if_pos h2, decide_eq_false h1]; rfl
    · rw [if_neg h1, if_neg h2, decide_eq_false h1]; rfl
theorem told_eq_iff {a b c d : Int} (hb : 0 < b) (hd : 0 < d) : decide (told (quots a b) = told (quots c d)) = (a * d == c * b) := by
  have h := (ord_told (a := a) (c := c) hb hd).eq_iff
  have h2 : cmpZ (a * d) (c * b) = .eq ↔ a * d = c * b := by
    unfold cmpZ
    by_cases h1 : a * d < c * b
    · rw [if_pos h1]; simp; omega
    · by_cases h2 : a * d = c * b
      · rw [if_neg h1, if_pos h2]; simp [h2]
      · rw [if_neg h1, if_neg h2]; simp [h2]
  by_cases q : a * d = c * b
  · rw [decide_eq_true (h.mpr (h2.mpr q))]; simp [q]
  · rw [decide_eq_false (fun z => q (h2.mp (h.mp z)))]; simp [q]
theorem mark_sep (i : Nat) : ∃ c, isSep c = true ∧ Txt.item (Str.ofString "._+-") ((i : Int).fmod 4) = strOf [c] := by
  have h : (i : Int).fmod 4 = ((i % 4 : Nat) : Int) := by rw [Int.fmod_eq_emod_of_nonneg _ (by decide)]; omega
  rw [h]
  have h4 : i % 4 < 4 := Nat.mod_lt _ (by decide)
  generalize i % 4 = j at h4
  have : j = 0 ∨ j = 1 ∨ j = 2 ∨ j = 3 := by omega
  rcases this with rfl | rfl | rfl | rfl
  · exact ⟨46, by decide, by decide +kernel⟩
  · exact ⟨95, by decide, by decide +kernel⟩
  · exact ⟨43, by decide, by decide +kernel⟩
  · exact ⟨45, by decide, by decide +kernel⟩
theorem newsAddL {h₀ h h' : Heap} {L D : Addr} {m : Str → Option Value} {o : Obj} {news : List (Addr × Obj)} (F : Fr h₀ L h m) (N : News h₀ L h news) (k : ∀ b o, h.get? b = some o → b ≠ L → h'.get? b = some o) (hD : h.get? D = none) (ho : h'.get? D = some o) :
    News h₀ L h' ((D, o) :: news) := fun p hp => by
  rcases List.mem_cons.mp hp with rfl | hp
  · refine ⟨ho, ?_, ?_⟩
    · intro q
      obtain ⟨oL, _, _, hL, _⟩ := F.ns
      dsimp only at q
      rw [q, hL] at hD; cases hD
    · cases q : h₀.get? D with
      | none => rfl
      | some x => have := F.keep _ _ q; rw [this] at hD; cases hD
  · exact ⟨k _ _ (N p hp).1 (N p hp).2.1, (N p hp).2⟩

/-- the fractions that a script makes -/
def base7 : List (Int × Int) := [(0, 1), (-1, 1), (16, 1), (22, 7), (44, 14), (-22, 7), (1, 17)]
def pairOf (x : Int) : Int × Int := ((x.fdiv 499).fmod 20011 - 10005, x.fmod 499 + 2)
def pairsOf (ns : List Int) : List (Int × Int) := base7 ++ (ns.take 5).map pairOf
theorem pairsOf_ok {ns : List Int} : ∀ p ∈ pairsOf ns, -20000 < p.1 ∧ p.1 < 20000 ∧ 0 < p.2 ∧ p.2 ≤ 500 := by
  intro p hp
  rcases List.mem_append.mp hp with hp | hp
  · simp only [base7, List.mem_cons, List.not_mem_nil, or_false] at hp
    rcases hp with rfl | rfl | rfl | rfl | rfl | rfl | rfl <;> decide
  · obtain ⟨x, _, rfl⟩ := List.mem_map.mp hp
    have h1 := Int.fmod_nonneg_of_pos (x.fdiv 499) (b := 20011) (by decide)
    have h2 := Int.fmod_lt_of_pos (x.fdiv 499) (b := 20011) (by decide)
    have h3 := Int.fmod_nonneg_of_pos x (b := 499) (by decide)
    have h4 := Int.fmod_lt_of_pos x (b := 499) (by decide)
    unfold pairOf
    dsimp only
    omega
theorem pairsOf_len (ns : List Int) : 7 ≤ (pairsOf ns).length ∧ (pairsOf ns).length ≤ 12 := by
  unfold pairsOf base7
  simp only [List.length_append, List.length_cons, List.length_nil, List.length_map, List.length_take]
  omega
end Mine
end

section -- CallC
open PySem PySem.W PyProof.Rows
namespace Mine
section
variable {M : Model} {A : Around} {E : Value → Shared → Prop} {s : Shared} {env : Env}
theorem wpC_keep {α : Type} {vs : List Value} {m : Sem α} {Q : α → Shared → Prop} (h : wpC M A m Q E s) : wpC M A (m.keep vs) Q E s :=
  fun Γ p hΓ hc => by rw [Sem.wp_keep]; exact h Γ p hΓ hc
theorem exprC {e : Expr} {pos : Pos} {Q : Flow → Shared → Prop} (h : wpC M A (eval e env) (fun v s' => match v with | .ref _ => False | _ => Q .next s') E s)
    (hi : interactive env = false := by rfl) (hs : swapsWith e none pos.line env = pure false := by rfl) :
    wpC M A (exec (.Expr e pos) env) Q E s := by
  rw [exec_Expr env e pos hi hs]
  refine wpC_bind (wpC_of_any (wpAny_standAt (wpC_bind (wpC_mono h (fun v s' h' => ?_) fun _ _ x => x))))
  have hv : ∀ a, v ≠ .ref a := fun a hva => by subst hva; exact h'
  rw [dropValue_plain hv]
  refine wpC_pure ?_
  cases v <;> first | exact h' | exact (hv _ rfl).elim
theorem methodCallC {o : Expr} {name : Str} {apos pos : Pos} {args : List Expr} {pl : Sem Bool} {Q : Value → Shared → Prop}
    (h : wpAny M A (eval o env) (fun ov s₁ => wpAny M A (getMethod ov name pl) (fun fx s₂ => wpC M A (callWith pos fx.1 fx.2 (backTo pos (starEach args env)) []) Q E s₂) E s₁) E s)
    (he : eval (.Call (.Attribute o name apos) args [] pos) env = (do
      let ov ← eval o env
      standAt apos.atName
      let (f, first) ← holding [ov] (getMethod ov name pl)
      callWith pos f first (backTo pos (starEach args env)) []) := by rfl) :
    wpC M A (eval (.Call (.Attribute o name apos) args [] pos) env) Q E s := by
  rw [he]
  refine wpC_bind (wpC_of_any (wpAny_mono h (fun ov s₁ h₁ => wpC_bind (wpC_of_any (wpAny_standAt (wpC_bind (wpC_of_any (wpAny_holding (wpAny_mono h₁ (fun fx s₂ h₂ => ?_) fun _ _ x => x))))))) fun _ _ x => x))
  exact h₂
theorem callWithC_builtin {pos : Pos} {id : String} {first : List Value} {args : List (Bool × Sem Value)} {Q : Value → Shared → Prop}
    (hplain : args.any (·.1) = false)
    (h : wpC M A (evalArgs (.builtin id) true args []) (fun a s₁ => wpC M A (call (.builtin id) (first ++ a.pos) a.kw) Q E s₁) E s) :
    wpC M A (callWith pos (.builtin id) first args []) Q E s := by
  unfold callWith
  refine wpC_bind (wpC_holding (wpC_mono h (fun a s₁ h₁ => wpC_bind (wpC_of_any (wpAny_standAt ?_))) fun _ _ x => x))
  simp only [hplain, List.any_nil, Bool.or_false]
  refine wpC_bind (wpC_pure ?_)
  exact wpC_bind (wpC_mono h₁ (fun r s₂ hr => wpC_of_any (wpAny_bind (wpAny_holding (wpAny_point (wpAny_pure hr))))) fun _ _ x => x)
theorem callWithC_function {pos : Pos} {a : Addr} {o : Obj} {fd : FuncData} {h₀ : Heap} {first : List Value} {args : List (Bool × Sem Value)} {Q : Value → Shared → Prop} (ho : h₀.get? a = some o) (hd : o.data = .func fd)
    (h : wpC M A (evalArgs (.ref a) true args []) (fun x s₁ => h₀.StaysIn s₁.heap ∧ wpC M A (call (.ref a) (first ++ x.pos) x.kw) Q E s₁) E s) :
    wpC M A (callWith pos (.ref a) first args []) Q E s := by
  unfold callWith
  refine wpC_bind (wpC_holding (wpC_mono h (fun x s₁ h₁ => wpC_bind (wpC_of_any (wpAny_standAt ?_))) fun _ _ x => x))
  have tail : ∀ {t : Sem Value}, wpC M A t Q E s₁ → wpC M A (t >>= fun r => holding [r] point >>= fun _ => pure r) Q E s₁ :=
    fun ht => wpC_bind (wpC_mono ht (fun r s₂ hr => wpC_of_any (wpAny_bind (wpAny_holding (wpAny_point (wpAny_pure hr))))) fun _ _ x => x)
  cases hs : (args.any (·.1) || ([] : List (Option Str × Sem Value)).any (·.1.isNone)) <;>
    refine wpC_bind (m := keeperOf (.ref a)) ?_ <;> unfold keeperOf <;>
    refine wpC_bind (wpC_of_any (wpAny_load (h₁.1 _ _ ho) ?_)) <;> rw [hd] <;> refine wpC_of_any (wpAny_pure ?_)
  · refine wpC_ite ?_
    split
    · exact tail h₁.2
    · exact tail (by unfold callMarked; exact wpC_keep h₁.2)
  · exact tail (by unfold callMarked; exact wpC_keep h₁.2)
theorem callC {f : Value} {pos : List Value} {Q : Value → Shared → Prop}
    (hc : codeC M A (.call f ⟨pos, []⟩) (fun r s' => match r with | .ok (.ret v) => Q v s' | .ok _ => False | .error e => E e s') s) :
    wpC M A (call f pos []) Q E s := wpC_call hc
end
end Mine
end

section -- Law
open PySem PySem.W PyProof.Rows
namespace Mine
set_option maxRecDepth 100000
set_option maxHeartbeats 8000000

theorem law_call {w : World} {mean : ExcName → Option Value} {mg mb : Str → Option Value} {s : Shared} {R : Result → Shared → Prop} {ls : Addr} {vs : List Value} {ns : List Int}
    (T : Top hd.view_39 (looseW hd.view_39 [Str.ofString "_twin_re_1", Str.ofString "_ver_stages"]) mean mg mb s.heap)
    (KX : (hd.heap_39 w.params).In s.heap) (hl : s.heap.IsList ls vs.toArray) (hi : IntsAre vs ns) (hlen : ns.length ≤ 63)
    (hR : ∀ L h' tk m, Fr s.heap L h' m → R (.ok (.ret (.bool true))) { s with heap := h', toks := tk }) :
    codeC (model PySem.Challenge.rw_pe0029_01.row.prog w) callerA (.call (.ref 75) ⟨[.ref ls], []⟩) R s := by
  refine callC_plain (binds := [(Str.ofString "script", .ref ls)]) (by k_room) (KX 75 _ rfl) rfl T.nolimit (codeRec_of KX rfl) rfl (by simp only [List.forall_mem_cons]; exact ⟨rfl, by simp⟩) ?_
  revert KX; k_fill; intro KX
  w_on; w_top on
  intro h₁ F
  have N : News s.heap s.heap.objs.size h₁ [] := News.nil
  refine wpC_execs_cons (wpC_of_any ?_)
  refine wpAny_mono (Q := fun (fl : Flow) s' => fl = .next ∧ ∃ (h' : Heap) (tk : Nat) (lp : Addr) (k : Nat) (ts : List (Addr × Obj)) (us : Array Value), s' = { s with heap := h', toks := tk } ∧
    Fr s.heap s.heap.objs.size h' (fun y => if y = Str.ofString "pairs" then some (.ref lp) else List.lookup y [(Str.ofString "script", Value.ref ls)].reverse) ∧
    News s.heap s.heap.objs.size h' ((lp, W.listOf us k) :: ts) ∧ Pairs ts us.toList base7 ∧ ∀ p ∈ ts, p.1 ≠ lp) ?_ ?_ (fun _ _ x => x)
  · repeat' (first | (k_unfold; (try dsimp only)) | ((fail_if_success (with_reducible show (_ ∧ _))); first | walk1 | (dsimp only; walk1)))
    rename_i F₁ N₁
    refine ⟨rfl, _, _, _, _, _, _, rfl, F₁, N₁, (.cons _ _ _ _ _ (.tail _ (.tail _ (.tail _ (.tail _ (.tail _ (.tail _ (.head _))))))) (.cons _ _ _ _ _ (.tail _ (.tail _ (.tail _ (.tail _ (.tail _ (.head _)))))) (.cons _ _ _ _ _ (.tail _ (.tail _ (.tail _ (.tail _ (.head _))))) (.cons _ _ _ _ _ (.tail _ (.tail _ (.tail _ (.head _)))) (.cons _ _ _ _ _ (.tail _ (.tail _ (.head _))) (.cons _ _ _ _ _ (.tail _ (.head _)) (.cons _ _ _ _ _ (.head _) .nil))))))), ?_⟩
    intro p hp
    simp only [List.mem_cons, List.not_mem_nil, or_false] at hp
    rcases hp with rfl | rfl | rfl | rfl | rfl | rfl | rfl <;> (exact Nat.ne_of_lt (by omega))
  rintro fl s' ⟨rfl, h₂, tk₂, lp, k, ts, us, rfl, F₂, N₂, P₂, hap⟩
  clear F N
  dsimp only
  refine wpC_execs_cons (wpC_of_any ?_)
  refine For_invV s.heap rfl rfl ?_ (hE := PassesOwn.never)
  repeat' (first | (k_unfold; (try dsimp only)) | ((fail_if_success (with_reducible show wpAny _ _ (pyIter _) _ _ _)); first | walk1 | (dsimp only; walk1)))
  rename Fr _ _ _ _ => F₃; rename News _ _ _ _ => N₃
  rename IntsAre _ (List.take 5 ns) => hi5
  rename_i D ws h₃ _ _ hlt
  refine loop2 (vs := ws.toArray) (nn := 0) (fun i m news => ∃ us k ts, m (Str.ofString "pairs") = some (.ref lp) ∧ news = (lp, W.listOf us k) :: ts ∧ Pairs ts us.toList (base7 ++ ((ns.take 5).take i).map pairOf) ∧ ∀ p ∈ ts, p.1 ≠ lp) rfl ?_ F₃ N₃ ⟨us, k, ts, rfl, rfl, by simpa using P₂, hap⟩ ?_ ?_
  · intro p hp
    rcases List.mem_cons.mp hp with rfl | hp
    · exact Nat.ne_of_lt hlt.1
    · exact Nat.ne_of_lt (allLt_mem _ hlt.2 p hp)
  · clear F₃ N₃ P₂ hap
    rintro I o ol i v m₁ news₁ h tk hgv hne1 hne2 hne3 ⟨us, k, ts, hm, rfl, P, hap⟩ F₃ N₃
    obtain ⟨x, tx, rfl, hx⟩ := intItem hi5 i v (by simpa using hgv)
    replace F₃ := frUnder1 F₃ hm
    repeat' (first | (k_unfold; (try dsimp only)) | ((fail_if_success (with_reducible show wpAny _ _ (call (Value.builtin "list.append") _ _) _ _ _)); first | walk1 | (dsimp only; walk1)))
    rename Fr _ _ _ _ => Fa; rename News _ _ _ _ => Na
    rename_i t₁ _ hlt
    obtain ⟨hlt1, hlt2, hlt3, hlt4⟩ := hlt
    have n1 := neN hne1
    have n2 := neN (hne2 _ (.head _))
    have n3 := neN (hne3 _ (.head _))
    dsimp only at n1 n2 n3
    have hln := P.len
    have hi5' : i < 5 := by
      have := (List.getElem?_eq_some_iff.mp hx).1
      rw [List.length_take] at this
      omega
    have husz : us.size = 7 + i := by
      have h5 := (List.getElem?_eq_some_iff.mp hx).1
      simp only [base7, List.length_append, List.length_cons, List.length_nil, List.length_map, List.length_take, Array.length_toList] at hln h5
      omega
    refine append_K Fa Na (.tail (Nat.ne_of_gt hlt3) (.tail (Ne.symm n2) (.tail (Ne.symm n3) (.head hap)))) ?_ (by rw [sizeLine_eq]; omega)
    intro h₄ Fb Nb
    clear Fa Na
    dsimp only
    repeat' (first | (k_unfold; (try dsimp only)) | ((fail_if_success (with_reducible show (_ ∧ _))); first | walk1 | (dsimp only; walk1)))
    refine ⟨_, _, _, (lp, _) :: (t₁, _) :: ts, rfl, Fb, turn_news Nb, ?_, us.push (.ref t₁), _, _, rfl, rfl, ?_, ?_⟩
    · intro p hp q hq
      simp only [List.mem_cons, List.not_mem_nil, or_false] at hp hq
      rcases hp with rfl | rfl | hp <;> rcases hq with rfl | rfl
      · exact n2
      · exact n3
      · exact Nat.ne_of_gt hlt1
      · exact Nat.ne_of_gt hlt2
      · exact hne2 _ (.tail _ hp)
      · exact hne3 _ (.tail _ hp)
    · rw [List.take_add_one, hx, List.map_append, ← List.append_assoc, Array.toList_push]
      exact (P.mono fun p hp => .tail _ hp).snoc _ _ _ _ _ (.head _)
    · intro p hp
      rcases List.mem_cons.mp hp with rfl | hp
      · exact Nat.ne_of_gt hlt3
      · exact hap p hp
  · clear F₃ N₃ P₂ hap
    rintro m₁ news₁ h tk ⟨us, k, ts, hm, rfl, P, hap⟩ F₃ N₃
    have hps : ∃ ps, pairsOf ns = ps := ⟨_, rfl⟩
    obtain ⟨ps, hps⟩ := hps
    have hws : ws.toArray.size = (List.take 5 ns).length := by simpa using hi5.length
    rw [hws, List.take_length] at P
    replace P : Pairs ts us.toList ps := by rw [← hps]; exact P
    have hpl := pairsOf_len ns
    have hok := pairsOf_ok (ns := ns)
    rw [hps] at hpl hok
    have husz : us.size = ps.length := by simpa using P.len
    clear hi5 hws hlt hps
    replace F₃ := frPut F₃ hm
    dsimp only
    refine wpC_execs_cons (wpC_of_any ?_)
    repeat' (first | (k_unfold; (try dsimp only)) | (first | walk1 | (dsimp only; walk1)))
    rename Fr _ _ _ _ => F₄; rename News _ _ _ _ => N₄
    rename_i ll _ _ _ hll _
    refine wpC_execs_cons ?_
    refine For_invC s.heap rfl rfl ?_
    repeat' (first | (k_unfold; (try dsimp only)) | ((fail_if_success (with_reducible show wpAny _ _ (call (Value.builtin "len") _ _) _ _ _)); (fail_if_success (with_reducible show wpAny _ _ (pyIter _) _ _ _)); first | walk1 | (dsimp only; walk1)))
    refine len_list (items := us) ⟨_, (N₄ _ (.tail _ (.head _))).1, rfl, k, rfl⟩ (by omega) ?_
    dsimp only
    repeat' (first | (k_unfold; (try dsimp only)) | ((fail_if_success (with_reducible show wpAny _ _ (pyIter _) _ _ _)); first | walk1 | (dsimp only; walk1)))
    rename IsRange _ _ _ _ _ _ _ _ => hr; rename Fr _ _ _ _ => F₅; rename News _ _ _ _ => N₅
    refine loopRC (n := us.size) (fun i m news => ∃ lus k2 zs, m (Str.ofString "pairs") = some (.ref lp) ∧ m (Str.ofString "lists") = some (.ref ll) ∧ news = (ll, W.listOf lus k2) :: zs ∧ (lp, W.listOf us k) ∈ zs ∧ Pairs zs us.toList ps ∧ RowsIn zs lus.toList (ps.take i) ∧ ∀ p ∈ zs, p.1 ≠ ll) rfl hr (by omega) F₅ N₅ ?_ ?_ ?_
    · refine ⟨#[], 0, _, rfl, rfl, rfl, .head _, P.mono fun p hp => .tail _ hp, by simpa using RowsIn.nil, ?_⟩
      intro p hp
      rcases List.mem_cons.mp hp with rfl | hp
      · exact Nat.ne_of_lt hll.1
      · exact Nat.ne_of_lt (allLt_mem _ hll.2 p hp)
    · clear F₅ N₅ P hap hll hr
      rintro I o i t m₁ news₁ h tk hin hne ⟨lus, k2, zs, hm1, hm2, rfl, hlp, P, Rw, hap⟩ F₃ N₃
      replace F₃ := frUnder2 F₃ hm1 hm2
      obtain ⟨⟨a, b⟩, hab⟩ : ∃ p, ps[i]? = some p := ⟨_, List.getElem?_eq_getElem (by omega)⟩
      obtain ⟨ha1, ha2, hb1, hb2⟩ := hok _ (List.mem_of_getElem? hab)
      dsimp only at ha1 ha2 hb1 hb2
      refine wpC_execs_cons (wpC_of_any ?_)
      repeat' (first | (k_unfold; (try dsimp only)) | ((fail_if_success (with_reducible show wpAny _ _ (subscriptTail _ _ (Value.ref _) (Value.int _ _)) _ _ _)); first | walk1 | (dsimp only; walk1)))
      refine pair_item N₃ (fun p hp => .tail _ (.tail _ hp)) hlp P hab (by omega) (fun t1 ta tb hT => ?_)
      repeat' (first | (k_unfold; (try dsimp only)) | ((fail_if_success (with_reducible show wpAny _ _ (subscriptTail _ _ (Value.ref _) (Value.int _ _)) _ _ _)); first | walk1 | (dsimp only; walk1)))
      refine item_tupleT hT (by decide) (by decide) rfl rfl ?_
      repeat' (first | (k_unfold; (try dsimp only)) | ((fail_if_success (with_reducible show wpAny _ _ (subscriptTail _ _ (Value.ref _) (Value.int _ _)) _ _ _)); first | walk1 | (dsimp only; walk1)))
      refine pair_item N₃ (fun p hp => .tail _ (.tail _ hp)) hlp P hab (by omega) (fun t2 ta2 tb2 hT2 => ?_)
      repeat' (first | (k_unfold; (try dsimp only)) | ((fail_if_success (with_reducible show wpAny _ _ (subscriptTail _ _ (Value.ref _) (Value.int _ _)) _ _ _)); first | walk1 | (dsimp only; walk1)))
      refine item_tupleT hT2 (by decide) (by decide) rfl rfl ?_
      repeat' (first | (k_unfold; (try dsimp only)) | ((fail_if_success (with_reducible show wpAny _ _ (call (Value.ref _) _ _) _ _ _)); first | walk1 | (dsimp only; walk1)))
      refine wpAny_call (quot_call (T.keeps F₃.keep) (KX.keeps F₃.keep) (by omega) (by omega) (by omega) (by omega) ?_)
      intro lq vq nq h₄ tk₄ st hnone hget hints
      have F₄ := frStay F₃ st
      have N₄ := newsAdd F₃ N₃ st hnone hget
      have hqne := newsNe N₃ hnone
      clear F₃ N₃ hT hT2
      dsimp only
      repeat' (first | (k_unfold; (try dsimp only)) | (first | walk1 | (dsimp only; walk1)))
      rename Fr _ _ _ _ => F₅; rename News _ _ _ _ => N₅
      refine wpC_execs_cons (exprC (methodCallC ?_))
      repeat' (first | (k_unfold; (try dsimp only)) | (first | walk1 | (dsimp only; walk1)))
      dsimp only
      refine callWithC_builtin rfl (evalArgs_plainC (spliced_consC ?_))
      rw [if_neg Bool.false_ne_true]
      refine CallC ?_
      repeat' (first | (k_unfold; (try dsimp only)) | (first | walk1 | (dsimp only; walk1)))
      refine callWithC_function (KX 44 _ rfl) rfl (evalArgs_plainC (spliced_consC (wpC_of_any ?_)))
      rw [if_neg Bool.false_ne_true]
      repeat' (first | (k_unfold; (try dsimp only)) | ((fail_if_success (with_reducible show wpAny _ _ (call (Value.ref _) _ _) _ _ _)); first | walk1 | (dsimp only; walk1)))
      have hqa := quots_all _ a b (by omega) (Nat.le_refl _) ha1 ha2 (by omega)
      obtain ⟨hqn, hqb⟩ := hqa
      obtain ⟨c, hc, hmk⟩ := mark_sep i
      rw [hmk]
      refine wpAny_call (rel_call (T.keeps F₅.keep) (KX.keeps F₅.keep) (vs := vq.toList) ⟨_, (N₅ _ (.head _)).1, rfl, nq, by simp [W.listOf]⟩ hints (fun q hq => by have := hqb q hq; omega) (by omega) (by simp [strOf, Str.length]) ?_)
      intro t₆ h₆ tk₆ st₆
      have F₆ := frStay F₅ st₆
      have N₆ := N₅.keeps st₆
      clear F₅ N₅ F₄ N₄
      obtain ⟨x, hx1, hx2, hx3, hx4, hx5⟩ := release_told hc (row := quots a b) (fun q hq => by have := hqb q hq; omega) (by omega)
      rw [hx1]
      dsimp only
      refine wpC_of_any ?_
      repeat' (first | (k_unfold; (try dsimp only)) | ((fail_if_success (with_reducible show (_ ∧ _))); first | walk1 | (dsimp only; walk1)))
      refine ⟨F₆.keep, ?_⟩
      try dsimp only
      refine callC (cv_call tell T KX F₆ rfl (fun q => by cases q) (by rw [strOf_len]; exact hx2) (by simpa [strOf] using hx3) (by simpa [strOf] using hx4) ?_)
      intro D nn us₇ h₇ tk₇ hI₇ hD hgD hkeep F₇
      have hI₈ : ItsAre us₇.toList (told (quots a b)) := by
        rw [← hx5]; simpa [strOf] using hI₇
      have N₇ := newsAddL F₆ N₆ hkeep hD hgD
      have hDne := newsNe N₆ hD
      clear F₆ N₆ hI₇ hx1 hx2 hx3 hx4 hx5 hkeep
      dsimp only
      refine wpC_of_any ?_
      repeat' (first | (k_unfold; (try dsimp only)) | ((fail_if_success (with_reducible show wpAny _ _ (call (Value.builtin "list.append") _ _) _ _ _)); first | walk1 | (dsimp only; walk1)))
      have n1 := neN (hne _ (.head _))
      have n2 := neN (hDne _ (.tail _ (.tail _ (.head _))))
      have n3 := neN (hqne _ (.tail _ (.head _)))
      dsimp only at n1 n2 n3
      have hlus : lus.size = i := by
        have := Rw.len
        rw [List.length_take] at this
        simp only [Array.length_toList] at this
        omega
      refine wpC_of_any (append_K F₇ N₇ (.tail (Ne.symm n2) (.tail (Ne.symm n3) (.tail (Ne.symm n1) (.head hap)))) ?_ (by rw [sizeLine_eq]; omega))
      intro h₈ F₈ N₈
      clear F₇ N₇
      dsimp only
      refine wpC_execs_cons (wpC_of_any ?_)
      repeat' (first | (k_unfold; (try dsimp only)) | ((fail_if_success (with_reducible show wpAny _ _ (subscriptTail _ _ (Value.ref _) (Value.int _ _)) _ _ _)); first | walk1 | (dsimp only; walk1)))
      refine item_list (items := lus.push (.ref D)) ⟨_, (N₈ _ (.tail _ (.tail _ (.tail _ (.head _))))).1, rfl, _, rfl⟩ (by omega) (by omega) (x := .ref D) (by simp [← hlus]) ?_
      repeat' (first | (k_unfold; (try dsimp only)) | ((fail_if_success (with_reducible show wpAny _ _ (call (Value.ref _) _ _) _ _ _)); first | walk1 | (dsimp only; walk1)))
      refine wpAny_call (told_call (T.keeps F₈.keep) (KX.keeps F₈.keep) (vs := vq.toList) ⟨_, (N₈ _ (.tail _ (.head _))).1, rfl, nq, by simp⟩ hints (fun q hq => by have := hqb q hq; omega) (by omega) ?_)
      intro lt ut nt h₉ tk₉ st₉ hnt hgt hI₉
      have F₉ := frStay F₈ st₉
      have N₉ := newsAdd F₈ N₈ st₉ hnt hgt
      clear F₈ N₈
      dsimp only
      repeat' (first | (k_unfold; (try dsimp only)) | ((fail_if_success (with_reducible show wpAny _ _ (compareOp _ _ _) _ _ _)); first | walk1 | (dsimp only; walk1)))
      refine ne_its (us := us₇) (vs := ut) ⟨_, (N₉ _ (.tail _ (.head _))).1, rfl, _, rfl⟩ ⟨_, (N₉ _ (.head _)).1, rfl, _, rfl⟩ hI₈ hI₉ (by ke_room) ?_
      rw [decide_eq_true rfl, Bool.not_true]
      repeat' (first | (k_unfold; (try dsimp only)) | ((fail_if_success (with_reducible show (_ ∧ _))); first | walk1 | (dsimp only; walk1)))
      dsimp only
      refine wpC_of_any (wpAny_execs_nil ?_)
      refine ⟨_, _, _, (ll, _) :: (D, _) :: zs, rfl, F₉, turn_news2 N₉, ?_, lus.push (.ref D), _, _, rfl, rfl, rfl, .tail _ hlp, P.mono fun p hp => .tail _ hp, ?_, ?_⟩
      · intro p hp q hq
        rw [List.mem_singleton.mp hq]
        rcases List.mem_cons.mp hp with rfl | hp
        · exact n1
        · rcases List.mem_cons.mp hp with rfl | hp
          · exact Ne.symm (hDne _ (.tail _ (.head _)))
          · exact hne _ (.tail _ hp)
      · rw [List.take_add_one, hab, Array.toList_push]
        exact (Rw.mono fun p hp => .tail _ hp).snoc _ _ _ _ _ (.head _) hI₈
      · intro p hp
        rcases List.mem_cons.mp hp with rfl | hp
        · exact Ne.symm n2
        · exact hap p hp
    · clear F₅ N₅ P hap hll hr
      rintro m₁ news₁ h tk ⟨lus, k2, zs, hm1, hm2, rfl, hlp, P, Rw, hap⟩ F₃ N₃
      rw [husz, List.take_length] at Rw
      replace F₃ := frPut2 F₃ hm1 hm2
      dsimp only
      refine wpC_execs_cons (wpC_of_any ?_)
      refine For_invV s.heap rfl rfl ?_ (hE := PassesOwn.never)
      repeat' (first | (k_unfold; (try dsimp only)) | ((fail_if_success (with_reducible show wpAny _ _ (call (Value.builtin "len") _ _) _ _ _)); (fail_if_success (with_reducible show wpAny _ _ (pyIter _) _ _ _)); first | walk1 | (dsimp only; walk1)))
      refine len_list (items := us) ⟨_, (N₃ _ (.tail _ hlp)).1, rfl, k, rfl⟩ (by omega) ?_
      dsimp only
      repeat' (first | (k_unfold; (try dsimp only)) | ((fail_if_success (with_reducible show wpAny _ _ (pyIter _) _ _ _)); first | walk1 | (dsimp only; walk1)))
      rename IsRange _ _ _ _ _ _ _ _ => hr; rename Fr _ _ _ _ => F₅; rename News _ _ _ _ => N₅
      refine loopR (n := us.size) (fun i m news => m (Str.ofString "pairs") = some (.ref lp) ∧ m (Str.ofString "lists") = some (.ref ll) ∧ news = (ll, W.listOf lus k2) :: zs) rfl hr (by omega) F₅ N₅ ⟨rfl, rfl, rfl⟩ ?_ ?_
      · clear F₅ N₅ hr
        rintro I o i t m₁ news₁ h tk hin hne ⟨hm1, hm2, rfl⟩ F₃ N₃
        replace F₃ := frUnder2 F₃ hm1 hm2
        obtain ⟨⟨a, b⟩, hab⟩ : ∃ p, ps[i]? = some p := ⟨_, List.getElem?_eq_getElem (by omega)⟩
        obtain ⟨ha1, ha2, hb1, hb2⟩ := hok _ (List.mem_of_getElem? hab)
        dsimp only at ha1 ha2 hb1 hb2
        repeat' (first | (k_unfold; (try dsimp only)) | ((fail_if_success (with_reducible show wpAny _ _ (exec (Stmt.For _ _ _ _ _) _) _ _ _)); first | walk1 | (dsimp only; walk1)))
        refine For_invV s.heap rfl rfl ?_ (hE := PassesOwn.never)
        repeat' (first | (k_unfold; (try dsimp only)) | ((fail_if_success (with_reducible show wpAny _ _ (pyIter _) _ _ _)); first | walk1 | (dsimp only; walk1)))
        rename IsRange _ _ _ _ _ _ _ _ => hr; rename Fr _ _ _ _ => F₅; rename News _ _ _ _ => N₅
        have nI := neN (hne _ (.head _))
        dsimp only at nI
        refine loopR (n := i) (fun j m news => m (Str.ofString "pairs") = some (.ref lp) ∧ m (Str.ofString "lists") = some (.ref ll) ∧ m (Str.ofString "i") = some (.int (i : Int) t) ∧ news = (I, o) :: (ll, W.listOf lus k2) :: zs) rfl hr (by omega) F₅ N₅ ⟨rfl, rfl, rfl, rfl⟩ ?_ ?_
        · clear F₅ N₅ hr
          rintro J oJ j tj m₂ news₂ h tk hjn hneJ ⟨hm1, hm2, hm3, rfl⟩ F₇ N₇
          replace F₇ := frUnder3 F₇ hm1 hm2 hm3
          obtain ⟨⟨c, d⟩, hcd⟩ : ∃ p, ps[j]? = some p := ⟨_, List.getElem?_eq_getElem (by omega)⟩
          obtain ⟨hc1, hc2, hd1, hd2⟩ := hok _ (List.mem_of_getElem? hcd)
          dsimp only at hc1 hc2 hd1 hd2
          repeat' (first | (k_unfold; (try dsimp only)) | ((fail_if_success (with_reducible show wpAny _ _ (subscriptTail _ _ (Value.ref _) (Value.int _ _)) _ _ _)); first | walk1 | (dsimp only; walk1)))
          refine pair_item N₇ (fun p hp => .tail _ (.tail _ (.tail _ hp))) hlp P hab (by omega) (fun t1 ta tb hT => ?_)
          repeat' (first | (k_unfold; (try dsimp only)) | ((fail_if_success (with_reducible show wpAny _ _ (subscriptTail _ _ (Value.ref _) (Value.int _ _)) _ _ _)); first | walk1 | (dsimp only; walk1)))
          refine item_tupleT hT (by decide) (by decide) rfl rfl ?_
          clear hT
          repeat' (first | (k_unfold; (try dsimp only)) | ((fail_if_success (with_reducible show wpAny _ _ (subscriptTail _ _ (Value.ref _) (Value.int _ _)) _ _ _)); first | walk1 | (dsimp only; walk1)))
          refine pair_item N₇ (fun p hp => .tail _ (.tail _ (.tail _ hp))) hlp P hcd (by omega) (fun t1 ta tb hT => ?_)
          repeat' (first | (k_unfold; (try dsimp only)) | ((fail_if_success (with_reducible show wpAny _ _ (subscriptTail _ _ (Value.ref _) (Value.int _ _)) _ _ _)); first | walk1 | (dsimp only; walk1)))
          refine item_tupleT hT (by decide) (by decide) rfl rfl ?_
          clear hT
          repeat' (first | (k_unfold; (try dsimp only)) | ((fail_if_success (with_reducible show wpAny _ _ (binaryOp _ _ _) _ _ _)); first | walk1 | (dsimp only; walk1)))
          refine PyProof.Rows.mul_int ?_ (IntMulOk.of_left (intBits_le_64 (by omega) (by omega)))
          repeat' (first | (k_unfold; (try dsimp only)) | ((fail_if_success (with_reducible show wpAny _ _ (subscriptTail _ _ (Value.ref _) (Value.int _ _)) _ _ _)); first | walk1 | (dsimp only; walk1)))
          rename Fr _ _ _ _ => F₈; rename News _ _ _ _ => N₈
          refine pair_item N₈ (fun p hp => .tail _ (.tail _ (.tail _ hp))) hlp P hcd (by omega) (fun t1 ta tb hT => ?_)
          repeat' (first | (k_unfold; (try dsimp only)) | ((fail_if_success (with_reducible show wpAny _ _ (subscriptTail _ _ (Value.ref _) (Value.int _ _)) _ _ _)); first | walk1 | (dsimp only; walk1)))
          refine item_tupleT hT (by decide) (by decide) rfl rfl ?_
          clear hT
          repeat' (first | (k_unfold; (try dsimp only)) | ((fail_if_success (with_reducible show wpAny _ _ (subscriptTail _ _ (Value.ref _) (Value.int _ _)) _ _ _)); first | walk1 | (dsimp only; walk1)))
          refine pair_item N₈ (fun p hp => .tail _ (.tail _ (.tail _ hp))) hlp P hab (by omega) (fun t1 ta tb hT => ?_)
          repeat' (first | (k_unfold; (try dsimp only)) | ((fail_if_success (with_reducible show wpAny _ _ (subscriptTail _ _ (Value.ref _) (Value.int _ _)) _ _ _)); first | walk1 | (dsimp only; walk1)))
          refine item_tupleT hT (by decide) (by decide) rfl rfl ?_
          clear hT
          repeat' (first | (k_unfold; (try dsimp only)) | ((fail_if_success (with_reducible show wpAny _ _ (binaryOp _ _ _) _ _ _)); first | walk1 | (dsimp only; walk1)))
          refine PyProof.Rows.mul_int ?_ (IntMulOk.of_left (intBits_le_64 (by omega) (by omega)))
          repeat' (first | (k_unfold; (try dsimp only)) | ((fail_if_success (with_reducible show wpAny _ _ (subscriptTail _ _ (Value.ref _) (Value.int _ _)) _ _ _)); first | walk1 | (dsimp only; walk1)))
          rename Fr _ _ _ _ => F₉; rename News _ _ _ _ => N₉
          refine row_item N₉ (fun p hp => .tail _ (.tail _ (.tail _ hp))) (.tail _ (.tail _ (.head _))) Rw hab (by omega) (fun Dhab vhab hDhab hIhab => ?_)
          repeat' (first | (k_unfold; (try dsimp only)) | ((fail_if_success (with_reducible show wpAny _ _ (subscriptTail _ _ (Value.ref _) (Value.int _ _)) _ _ _)); first | walk1 | (dsimp only; walk1)))
          refine row_item N₉ (fun p hp => .tail _ (.tail _ (.tail _ hp))) (.tail _ (.tail _ (.head _))) Rw hcd (by omega) (fun Dhcd vhcd hDhcd hIhcd => ?_)
          repeat' (first | (k_unfold; (try dsimp only)) | ((fail_if_success (with_reducible show wpAny _ _ (compareOp _ _ _) _ _ _)); first | walk1 | (dsimp only; walk1)))
          refine lt_its hDhab hDhcd hIhab hIhcd (by ke_room) (ord_told hb1 hd1) ?_
          rw [cmpZ_isLt]
          repeat' (first | (k_unfold; (try dsimp only)) | ((fail_if_success (with_reducible show wpAny _ _ (compareOp CmpOp.NotEq _ _) _ _ _)); first | walk1 | (dsimp only; walk1)))
          refine PyProof.Rows.ne_bool ?_
          rw [bne_self_eq_false]
          repeat' (first | (k_unfold; (try dsimp only)) | ((fail_if_success (with_reducible show wpAny _ _ (subscriptTail _ _ (Value.ref _) (Value.int _ _)) _ _ _)); first | walk1 | (dsimp only; walk1)))
          refine row_item N₉ (fun p hp => .tail _ (.tail _ (.tail _ hp))) (.tail _ (.tail _ (.head _))) Rw hab (by omega) (fun Ehab uhab gDhab gIhab => ?_)
          repeat' (first | (k_unfold; (try dsimp only)) | ((fail_if_success (with_reducible show wpAny _ _ (subscriptTail _ _ (Value.ref _) (Value.int _ _)) _ _ _)); first | walk1 | (dsimp only; walk1)))
          refine row_item N₉ (fun p hp => .tail _ (.tail _ (.tail _ hp))) (.tail _ (.tail _ (.head _))) Rw hcd (by omega) (fun Ehcd uhcd gDhcd gIhcd => ?_)
          repeat' (first | (k_unfold; (try dsimp only)) | ((fail_if_success (with_reducible show wpAny _ _ (compareOp _ _ _) _ _ _)); first | walk1 | (dsimp only; walk1)))
          refine eq_its gDhab gDhcd gIhab gIhcd (by ke_room) ?_
          rw [told_eq_iff hb1 hd1]
          repeat' (first | (k_unfold; (try dsimp only)) | ((fail_if_success (with_reducible show wpAny _ _ (compareOp CmpOp.NotEq _ _) _ _ _)); first | walk1 | (dsimp only; walk1)))
          refine PyProof.Rows.ne_bool ?_
          rw [bne_self_eq_false]
          repeat' (first | (k_unfold; (try dsimp only)) | ((fail_if_success (with_reducible show (_ ∧ _))); first | walk1 | (dsimp only; walk1)))
          refine ⟨_, _, _, (I, o) :: (ll, W.listOf lus k2) :: zs, rfl, F₉, N₉, ?_, rfl, rfl, rfl, rfl⟩
          intro p hp q hq
          rw [List.mem_singleton.mp hq]
          exact hneJ p hp
        · clear F₅ N₅ hr
          rintro m₂ news₂ h tk ⟨hm1, hm2, hm3, rfl⟩ F₇ N₇
          dsimp only
          refine wpAny_execs_nil ?_
          refine ⟨_, _, _, (ll, W.listOf lus k2) :: zs, rfl, F₇, N₇, ?_, hm1, hm2, rfl⟩
          intro p hp q hq
          rw [List.mem_singleton.mp hq]
          exact hne p hp
      · clear F₅ N₅ hr
        rintro m₁ news₁ h tk ⟨hm1, hm2, rfl⟩ F₇ N₇
        dsimp only
        refine wpC_of_any ?_
        repeat' (first | (k_unfold; (try dsimp only)) | (first | walk1 | (dsimp only; walk1)))
        exact hR _ _ _ _ F₇
end Mine
end

section -- HdF
open PySem PySem.W PySem.Calls PyProof.Rows
namespace Mine
set_option maxRecDepth 100000
set_option maxHeartbeats 8000000

theorem holds_try : PySem.Challenge.rw_pe0029_01.Holds := by
  w_on; o_law
  refine holdsOpenC (q := hd.view_39) (XP := XL hd.view_39 [])
    (YP := Hook.says (kHook hd.heap_39 [2, 3, 6, 11, 12, 35, 36, 37, 38, 40, 41, 43, 44, 45, 47, 48, 50, 51, 52, 54, 55, 57, 58, 59, 62, 63, 64, 67, 68, 69, 71, 72, 74, 75] (fun _ => by kernel_rfl)))
    left_top (Hook.of _) (Hook.keeps _) (fun s e => xl_of s (Bool.and_eq_true_iff.mp e).1) XL.keeps (by rfl) (by rfl) (by rfl) (fun s e => recFacts_of (Bool.and_eq_true_iff.mp e).2) (by rfl) (by first | assumption | decide +kernel) (by decide +kernel) ⟨rfl, rfl, rfl, rfl, rfl, by decide +kernel⟩ ?hw ?hc
  case hw => w_witness2
  case hc =>
    intro w s₀ s₁ mg mb G Y fa o pm cd doc dV kV ho hd hcd hD hmg hg args vals as hpre hlay hrd hwl hlo
    have KX := kIn_of Y
    have hfa : fa = 75 := by
      have h1 : mg (Str.ofString "law") = some (.ref 75) := mg_of KX G.T.g rfl
      have h2 : mg (Str.ofString "law") = some (.ref fa) := hmg
      rw [h1] at h2
      exact (Value.ref.inj (Option.some.inj h2)).symm
    subst hfa
    clear ho hd hcd hD hmg
    wrow_args hpre hlay hrd hwl hlo
    rename IntsAre _ _ => hI
    rename Heap.IsList _ _ _ => hL
    refine wpC_call (codeC_mono (law_call G.T KX hL hI (by omega) (R := fun r s' => r = .ok (.ret (.bool true)) ∧ ∃ L h' tk m, Fr s₁.heap L h' m ∧ s' = { s₁ with heap := h', toks := tk }) ?_) ?_)
    · intro L h' tk m F
      exact ⟨rfl, L, h', tk, m, F, rfl⟩
    · rintro r s' ⟨rfl, L, h', tk, m, F, rfl⟩
      dsimp only
      refine (goodW_bool (s' := { s₁ with heap := h', toks := tk }) F hg (raisesW_false ?_) ?_).toG
      · wrow_none_raised
      · wrow_post
end Mine
end

theorem PySem.Challenge.cw_pe0029_01_holds : PySem.Challenge.rw_pe0029_01.Holds := by
  exact Mine.holds_try
