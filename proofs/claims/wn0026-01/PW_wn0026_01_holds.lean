import PyProof.Rows.All
import Wide.All
import OpenK.AllK
import Wide.FinOn
import Open.Head
import KE.KIntText
import Lean
import PySem.Challenge.RW_wn0026_01
set_option Elab.async false
theorem Mine.fresh0 : True := by
  w_top off
  trivial
section
open PySem PySem.W PyProof.Rows PySem.Calls
namespace Mine
open PySem.Sem (wp)
/-- Somewhere below stands the claim's caller. -/
def Hb (Γ : Ctx) : Prop := Γ.below.any (fun x => x.1.isCaller) = true
theorem Hb.enter {Γ : Ctx} (h : Hb Γ) (c : Code) (hd : Option Value) (p : Pos) : Hb (Γ.enter c hd p) := by
  show ((Γ.code, p) :: Γ.below).any _ = true
  rw [List.any_cons, h, Bool.or_true]
theorem Hb.goto {Γ : Ctx} (h : Hb Γ) (c : Code) : Hb (Γ.goto c) := h
/-- wpAny for the contexts above the claim's caller alone. -/
def wpH {α : Type} (M : Model) (A : Around) (t : Sem α) (Q : α → Shared → Prop) (E : Value → Shared → Prop) (s : Shared) : Prop :=
  ∀ Γ p, Γ.In A → Hb Γ → wp M Γ t (fun a _ s' => Q a s') (fun e _ s' => E e s') p s
def codeH (M : Model) (A : Around) (c : Code) (R : Result → Shared → Prop) (s : Shared) : Prop :=
  ∀ Γ p, Γ.code = c → Γ.Below A → Hb Γ → wpCode M Γ R p s
section
variable {α β : Type} {M : Model} {A : Around} {E : Value → Shared → Prop} {s : Shared}
theorem wpH.up {t : Sem α} {Q : α → Shared → Prop} (h : wpAny M A t Q E s) : wpH M A t Q E s := fun Γ p a _ => h Γ p a
theorem codeH.up {c : Code} {R : Result → Shared → Prop} (h : codeAny M A c R s) : codeH M A c R s := fun Γ p hc a _ => h Γ p hc a
theorem wpH.mono {t : Sem α} {Q Q' : α → Shared → Prop} {E' : Value → Shared → Prop} (h : wpH M A t Q E s)
    (hQ : ∀ a s, Q a s → Q' a s) (hE : ∀ e s, E e s → E' e s) : wpH M A t Q' E' s :=
  fun Γ p a b => Sem.wp_mono M Γ t (fun x _ s => hQ x s) (fun e _ s => hE e s) p s (h Γ p a b)
theorem wpH.bind {m : Sem α} {f : α → Sem β} {Q : β → Shared → Prop} (h : wpH M A m (fun a s' => wpH M A (f a) Q E s') E s) :
    wpH M A (m >>= f) Q E s := fun Γ p a b => by
  rw [Sem.wp_bind']
  exact Sem.wp_mono M Γ m (fun x p' s' h' => h' Γ p' a b) (fun _ _ _ h' => h') p s (h Γ p a b)
/-- The first step is one of all contexts. -/
theorem wpH.first {m : Sem α} {f : α → Sem β} {Q : β → Shared → Prop} (h : wpAny M A m (fun a s' => wpH M A (f a) Q E s') E s) :
    wpH M A (m >>= f) Q E s := wpH.bind (wpH.up h)
theorem wpH.pure {a : α} {Q : α → Shared → Prop} (h : Q a s) : wpH M A (Pure.pure a) Q E s := fun _ _ _ _ => h
theorem wpH.standAt {pos : Pos} {Q : Unit → Shared → Prop} (h : Q () s) : wpH M A (PySem.standAt pos) Q E s := wpH.up (wpAny_standAt h)
theorem wpH.holding {vs : List Value} {m : Sem α} {Q : α → Shared → Prop} (h : wpH M A m Q E s) : wpH M A (PySem.holding vs m) Q E s :=
  fun Γ p a b => by rw [Sem.wp_holding]; exact h Γ p a b
theorem wpH.onRaise {m : Sem α} {k : Value → Sem Unit} {Q : α → Shared → Prop}
    (h : wpH M A m Q (fun e s' => wpH M A (k e) (fun _ s'' => E e s'') E s') s) : wpH M A (m.onRaise k) Q E s := fun Γ p a b => by
  rw [Sem.wp_onRaise]
  exact Sem.wp_mono M Γ m (fun _ _ _ h' => h') (fun e p' s' h' => h' Γ p' a b) p s (h Γ p a b)
theorem wpH.attempt {m : Sem α} {Q : Except Value α → Shared → Prop} (h : wpH M A m (fun a => Q (.ok a)) (fun e => Q (.error e)) s) :
    wpH M A m.attempt Q E s := fun Γ p a b => by rw [Sem.wp_attempt]; exact h Γ p a b
theorem wpH.throw {e : Value} {Q : α → Shared → Prop} (h : E e s) : wpH M A (MonadExcept.throw e : Sem α) Q E s := fun _ _ _ _ => h
theorem codeH.mono {c : Code} {R R' : Result → Shared → Prop} (h : codeH M A c R s) (hR : ∀ r s, R r s → R' r s) : codeH M A c R' s :=
  fun Γ p hc a b => wpCode_mono hR (h Γ p hc a b)
theorem codeH.units_le {c : Code} {R : Result → Shared → Prop} (h : codeH M A.in1 c R s) : codeH M A c R s :=
  fun Γ p hc a b => h Γ p hc ⟨a.1, a.2.1, a.2.2.1, a.2.2.2.1, Nat.le_succ_of_le a.2.2.2.2⟩ b
theorem wpH.run {c : Code} {h : Option Value} {Q : Flow → Shared → Prop}
    (hc : codeH M (A.mark h) c (fun r s' => match r with | .ok f => Q f s' | .error e => E e s') s) (hnb : h ≠ some byPass := by intro x; cases x) :
    wpH M A (PySem.run c h) Q E s :=
  fun Γ p a b => by rw [Sem.wp_run]; exact hc _ p rfl (a.enter c h p hnb) (b.enter _ _ _)
theorem wpH.call {f : Value} {pos : List Value} {kw : List (Str × Value)} {Q : Value → Shared → Prop}
    (hc : codeH M A (.call f ⟨pos, kw⟩) (fun r s' => match r with | .ok (.ret v) => Q v s' | .ok _ => False | .error e => E e s') s) :
    wpH M A (PySem.call f pos kw) Q E s :=
  fun Γ p a b => by
    show wp M Γ (runValue _) _ _ p s
    rw [Sem.wp_runValue]
    exact hc _ p rfl (a.enter _ none p (by intro x; cases x)) (b.enter _ _ _)
theorem wpH.runValue {c : Code} {Q : Value → Shared → Prop}
    (hc : codeH M A c (fun r s' => match r with | .ok (.ret v) => Q v s' | .ok _ => False | .error e => E e s') s) :
    wpH M A (PySem.runValue c) Q E s := fun Γ p a b => by
  rw [Sem.wp_runValue]; exact hc _ p rfl (a.enter c none p (by intro x; cases x)) (b.enter _ _ _)
theorem codeH.of_tree {c : Code} {R : Result → Shared → Prop}
    (h : wpH M (A.under c) (M.den c) (fun fin s' => match fin with | .done f => R (.ok f) s' | .again c' => c'.quiet = true ∧ codeH M A c' R s')
      (fun e s' => R (.error e) s') s) : codeH M A c R s := fun Γ p hc a b => by
  rw [wpCode_iff_wp, hc]
  refine Sem.wp_mono M Γ _ (fun fin p' s' h' => ?_) (fun _ _ _ h' => h') p s (h Γ p (hc ▸ a.in) b)
  cases fin with
  | done f => exact h'
  | again c' => exact ⟨h'.1, h'.2 (Γ.goto c') p' rfl (a.goto c') (b.goto c')⟩
theorem codeH.loop {c : Code} {R : Result → Shared → Prop} (hq : c.quiet = true) (I : Nat → Shared → Prop)
    (turn : ∀ n s, I n s → wpH M (A.under c) (M.den c)
      (fun fin s' => match fin with
        | .done f => R (.ok f) s'
        | .again c' => (c' = c ∧ ∃ m, m < n ∧ I m s') ∨ (c'.quiet = true ∧ codeH M A c' R s')) (fun e s' => R (.error e) s') s)
    (n : Nat) (h : I n s) : codeH M A c R s := by
  induction n using Nat.strongRecOn generalizing s with
  | ind n ih =>
    refine codeH.of_tree ((turn n s h).mono (fun fin s' hf => ?_) fun _ _ h' => h')
    cases fin with
    | done f => exact hf
    | again c' =>
      rcases hf with ⟨rfl, m, hm, hI⟩ | hf
      · exact ⟨hq, ih m hm hI⟩
      · exact hf
/-- A test of the stack itself: the caller is there. -/
theorem wpH.stack {Q : List (Code × Pos) → Shared → Prop} (h : ∀ st : List (Code × Pos), (st.any fun x => x.1.isCaller) = true → Q st s) :
    wpH M A PySem.stack Q E s := fun Γ p _ b => by
  show Q ((Γ.code, p) :: Γ.below) s
  exact h _ (by rw [List.any_cons, b, Bool.or_true])
end
section
variable {prog : Program} {w : World} {A : Around} {E : Value → Shared → Prop} {R : Result → Shared → Prop} {s : Shared}
theorem wpH.execs_cons {M : Model} {env : Env} {st rest} {Q : Flow → Shared → Prop}
    (h : wpH M A (exec st env) (fun f s' => match f with | .next => wpH M A (execs rest env) Q E s' | f => Q f s') E s) :
    wpH M A (execs (st :: rest) env) Q E s := fun Γ p a b => by
  rw [PySem.execs_cons, Sem.wp_bind']
  refine Sem.wp_mono M Γ _ (fun f p' s' h' => ?_) (fun _ _ _ h' => h') _ _ (h Γ p a b)
  cases f <;> first | exact h' Γ p' a b | exact h'
theorem codeH.func {body env}
    (h : wpH (model prog w) (A.deeper env) (execs body env) (fun f s' => R (.ok (.ret (match f with | .ret v => v | _ => .none))) s')
      (fun e s' => wpAny (model prog w) (A.deeper env) (leaving env e) (fun _ s'' => R (.error e) s'') (fun e' s'' => R (.error e') s'') s') s) :
    codeH (model prog w) A (.func body env) R s := by
  refine codeH.of_tree ?_
  show wpH _ (A.deeper env) (do point; match ← (execs body env).onRaise (leaving env) with | .ret v => ret v | _ => ret .none) _ _ s
  refine wpH.first (wpAny_point (wpH.bind (wpH.onRaise (h.mono (fun f s' h' => ?_) fun _ _ h' => wpH.up h'))))
  cases f <;> exact wpH.pure h'
theorem codeH.call_function {a : Addr} {args : Args} {o : Obj} {fd : FuncData} {body : List Stmt} (hroom : A.depth < recursionLimit)
    (ho : s.heap.get? a = some o)
    (hd' : o.data = .func fd) (hco : fd.scope.isCoroutine = false) (hgen : fd.scope.isGenerator = false) (hbody : fd.body = .stmts body) (hcd : s.heap.CodeRec fd.code fd.qualname)
    (h : wpAny (model prog w) A.in1 (bindArgs fd args) (fun binds s₁ =>
      wpAny (model prog w) A.in1 (newFunctionEnv fd.scope fd.globals fd.closure binds (fd.qualname ++ ".<locals>.") (some a) fd.code none fd.builtins)
        (fun env s₂ => s₂.heap.NoLimit ∧ codeH (model prog w) A (.func body env) R s₂) (fun e s' => R (.error e) s') s₁) (fun e s' => R (.error e) s') s) :
    codeH (model prog w) A (.call (.ref a) args) R s := by
  refine codeH.of_tree (wpH.up ?_)
  show wpAny _ A.in1 (callAny (.ref a) args) _ _ s
  simp only [callAny]
  refine wpAny_bind (wpAny_load ho ?_)
  obtain ⟨c, oc, vs, tq, hc, hoc, hdc, hq⟩ := hcd
  simp only [hd', callFunction, hco, hgen, hbody, hc]
  rw [hc] at h
  refine wpAny_bind (m := field (.ref c) 1) (wpAny_field hoc hdc hq (wpAny_bind (wpAny_pure ?_)))
  exact wpAny_bind (wpAny_mono h (fun binds s₁ h₁ => wpAny_bind (wpAny_mono h₁ (fun env s₂ h₂ => wpAny_bind (wpAny_enterFrame h₂.1 hroom
    (wpAny_pure (And.intro rfl h₂.2)))) fun _ _ h' => h')) fun _ _ h' => h')
theorem codeH.block {stmts : List Stmt} {env : Env}
    (h : wpH (model prog w) A (execs stmts env) (fun f s' => R (.ok f) s') (fun _ _ => False) s) : codeH (model prog w) A (.block stmts env) R s := by
  refine codeH.of_tree ?_
  show wpH _ A (do return Fin.done (← (execs stmts env).onRaise (fun x => do noteFrame x env; theTreesLotGoes x))) _ _ s
  exact wpH.bind (wpH.onRaise (h.mono (fun _ _ q => wpH.pure q) fun _ _ q => q.elim))
/-- A for loop of which nothing leaves by an exception. -/
theorem codeH.forLoop {target it body orelse env} (I : Nat → Shared → Prop)
    (turn : ∀ n s, I n s → wpAny (model prog w) A (pyNext it) (fun r s₁ => match r with
      | none => wpH (model prog w) A (execs orelse env) (fun f s₃ => R (.ok f) s₃) (fun _ _ => False) s₁
      | some v => wpAny (model prog w) A (assign target env v) (fun _ s₂ => wpH (model prog w) A (execs body env) (fun f s₃ => match f with
          | .next | .cont => ∃ m, m < n ∧ I m s₃
          | .brk => R (.ok .next) s₃
          | .ret v => R (.ok (.ret v)) s₃) (fun _ _ => False) s₂) (fun _ _ => False) s₁) (fun _ _ => False) s)
    (n : Nat) (h : I n s) (ht : ∀ v, letOwnedTupleGo target it v = pure () := by intro _; rfl) : codeH (model prog w) A (.forLoop target it body orelse env) R s := by
  refine codeH.loop rfl I (fun n s hI => ?_) n h
  show wpH _ A ((forTurn target it body orelse env).onRaise (fun x => do noteFrame x env; theTreesLotGoes x)) _ _ s
  refine wpH.onRaise (wpH.mono (E := fun _ _ => False) ?_ (fun _ _ q => q) fun _ _ q => q.elim)
  simp only [forTurn]
  refine wpH.first (wpAny_standAt (wpH.first (wpAny_onRaise (wpAny_mono (turn n s hI) (fun r s₁ h₁ => ?_) fun _ _ q => q.elim))))
  cases r with
  | none => exact wpH.pure (.inr ⟨rfl, codeH.block h₁⟩)
  | some v =>
    refine wpH.first (wpAny_of_eq (ht v) ?_)
    refine wpH.first (wpAny_mono h₁ (fun _ s₂ h₂ => wpH.bind (h₂.mono (fun f s₃ h₃ => ?_) fun _ _ h' => h')) fun _ _ h' => h')
    cases f with
    | next => exact wpH.pure (.inl ⟨rfl, h₃⟩)
    | cont => exact wpH.pure (.inl ⟨rfl, h₃⟩)
    | brk => exact wpH.pure h₃
    | ret v => exact wpH.pure h₃
theorem wpH.For {M : Model} {env : Env} {target iter body orelse pos} {Q : Flow → Shared → Prop}
    (h : wpAny M A (eval iter env) (fun x s₁ => wpAny M A (pyIter x) (fun it s₂ =>
      codeH M A (.forLoop target it body orelse env) (fun r s' => match r with | .ok f => Q f s' | .error _ => False) s₂) E s₁) E s)
    (hs : ∀ x, foldedSetIterable iter env x = Pure.pure x := by intro _; rfl) :
    wpH M A (exec (.For target iter body orelse pos) env) Q E s := by
  rw [exec_For]
  refine wpH.first (wpAny_standAt (wpH.first (wpAny_mono h (fun x s₁ h₁ => wpH.first (wpAny_of_eq (hs x) (wpH.first (wpAny_standAt (wpH.first (wpAny_holding
    (wpAny_mono h₁ (fun it s₂ h₂ => ?_) fun _ _ h' => h'))))))) fun _ _ h' => h')))
  unfold runOwn
  exact wpH.onRaise (wpH.run (h := none) (h₂.mono fun r s' q => by cases r with | ok f => exact q | error e => exact q.elim))
theorem wpH.Assign_Name {M : Model} {env : Env} {x pos' value pos} {Q : Flow → Shared → Prop}
    (h : wpH M A (eval value env) (fun v s₁ => wpAny M A (storeName env x v) (fun _ => Q .next) E s₁) E s)
    (hs : swapsWith value (some (.Name x pos')) pos.line env = Pure.pure false := by rfl) :
    wpH M A (exec (.Assign [.Name x pos'] value pos) env) Q E s := fun Γ p a b => by
  simp only [exec_Assign_Name env x pos' value pos hs, Sem.wp_bind', Sem.wp_cmd_standAt, Sem.wp_bindName, Sem.wp_pure']
  exact Sem.wp_mono M Γ _ (fun v _ s₁ h₁ => h₁ Γ _ a) (fun _ _ _ h' => h') _ _ (h Γ _ a b)
theorem wpH.If {M : Model} {env : Env} {test body orelse pos} {Q : Flow → Shared → Prop}
    (h : wpAny M A (isTrue test env (eval test env))
      (fun b s₂ => if b then wpH M A (execs body env) Q E s₂ else wpH M A (execs orelse env) Q E s₂) E s) :
    wpH M A (exec (.If test body orelse pos) env) Q E s := fun Γ p a b => by
  simp only [exec_If, Sem.wp_bind', Sem.wp_cmd_standAt]
  refine Sem.wp_mono M Γ _ (fun b' p₂ s₂ h₂ => ?_) (fun _ _ _ h' => h') _ _ (h Γ _ a)
  cases b' <;> exact h₂ Γ p₂ a b
end
end Mine
end
theorem Mine.fresh1 : True := by
  w_top off
  trivial
section
open PySem PySem.W PyProof.Rows PySem.Calls
namespace Mine
section
variable {prog : Program} {w : World} {A₀ A : Around} {s : Shared} {base h₀ : Heap} {outer : List Env} {L : Addr} {m : Str → Option Value} {env : Env} {news : List (Addr × Obj)} {K : Frag} {p : Program} {loose : List Str} {mean : ExcName → Option Value} {mg mb : Str → Option Value}
  {R : Result → Shared → Prop} {name qual : Str} {params : Arguments} {body : List Stmt} {scope : Scope} {cl : List (Str × Addr)} {dV kV doc pm cdv ct oc : Value} {an od : Option Addr} {osl : Array (Option Value)} {fo : Obj} {f : Addr} {args : Args} {binds : List (Str × Value)}
theorem callH_plain (B : Below A₀ base outer h₀) (F : Fr h₀ L s.heap m) (N : News h₀ L s.heap news) (hlim : h₀.NoLimit) (hA : A.frames = some (env :: outer)) (hf : env.frame = some L) (hke : env.scope.kind = .function)
    (ho : s.heap.get? f = some fo) (hd : fo.data = .func (fnX name qual params body scope cl dV kV doc pm an cdv ct)) (hcd : s.heap.CodeRec cdv qual) (hroom : A.depth < recursionLimit)
    (hbind : BindsTo s (fnX name qual params body scope cl dV kV doc pm an cdv ct) args binds) (hloc : ∀ y ∈ binds, scope.names.lookup y.1 = some .local)
    (h : ∀ g L' h₁, Fr h₀ L g m → Fr g L' h₁ (fun y => binds.reverse.lookup y) → News g L' h₁ news → Below A base (env :: outer) g → h₀.StaysIn g →
      wpH (model prog w) (A.deeper (envX qual scope L' f cdv cl)) (execs body (envX qual scope L' f cdv cl))
        (fun fl s' => LeaveK h₀ L m g R (match fl with | .ret v => v | _ => .none) s') (fun _ _ => False) { s with heap := h₁, toks := s.toks + binds.length })
    (hcell : ∀ x ∈ scope.names, x.2 ≠ .cell) (hco : scope.isCoroutine = false := by rfl) (hgen : scope.isGenerator = false := by rfl) (hk : scope.kind = .function := by rfl) : codeH (model prog w) A (.call (.ref f) args) R s := by
  obtain ⟨FG, BG, st, lv⟩ := groundX (R := R) B F N hA hf hke
  refine codeH.call_function (fd := fnX name qual params body scope cl dV kV doc pm an cdv ct) hroom ho hd hco hgen rfl hcd (hbind _ _ _ _ ?_)
  refine wpAny_newFunctionEnv hcell hloc (fun h₁ hns hsb => ⟨(hlim.keeps F.keep).fresh _ hsb, codeH.func ?_⟩) hk
  have hk₁ : ∀ b o, s.heap.get? b = some o → h₁.get? b = some o := fun b o e => hsb.extBut b o (Nat.ne_of_lt (Heap.lt_size e)) (Heap.get?_push_of_some _ e)
  exact (h _ s.heap.objs.size h₁ FG ⟨hns, fun b o e => hk₁ b o (of_hideAll _ e), Nat.le_of_eq (hideAll_size _ _)⟩
    (fun p hp => ⟨hk₁ _ _ (N p hp).1, Nat.ne_of_lt (Heap.lt_size (N p hp).1), hideAll_none _ (List.mem_map_of_mem hp)⟩) BG st).mono (fun fl s' hl => lv _ _ hl) fun _ _ q => q.elim
theorem codeH_def (B : Below A₀ base outer h₀) (F : Fr h₀ L s.heap m) (X₀ : K.In h₀) (N : News h₀ L s.heap news) (T : Top p loose mean mg mb h₀) (hA : A.frames = some (env :: outer)) (hf : env.frame = some L) (hke : env.scope.kind = .function)
    (ho : K.lookup f = some ⟨oc, od, .func (fnOf name qual params body scope dV kV doc pm an cdv ct), osl⟩) (hcd : codeIn K cdv qual = true) (hroom : A.depth < recursionLimit)
    (hbind : BindsTo s (fnOf name qual params body scope dV kV doc pm an cdv ct) args binds) (hloc : ∀ y ∈ binds, scope.names.lookup y.1 = some .local)
    (h : ∀ g L' h₁, Fr h₀ L g m → Fr g L' h₁ (fun y => binds.reverse.lookup y) → News g L' h₁ news → Below A base (env :: outer) g → K.In g → Top p loose mean mg mb g →
      wpH (model prog w) (A.deeper (envOf qual scope L' f cdv)) (execs body (envOf qual scope L' f cdv))
        (fun fl s' => LeaveK h₀ L m g R (match fl with | .ret v => v | _ => .none) s') (fun _ _ => False) { s with heap := h₁, toks := s.toks + binds.length })
    (hco : scope.isCoroutine = false) (hgen : scope.isGenerator = false) (hk : scope.kind = .function)
    (hcell : ∀ x ∈ scope.names, x.2 ≠ .cell) : codeH (model prog w) A (.call (.ref f) args) R s :=
  callH_plain (cl := []) B F N T.nolimit hA hf hke ((X₀.keeps F.keep) _ _ ho) rfl (codeRec_of (X₀.keeps F.keep) hcd) hroom hbind hloc (fun g L' h₁ FG F' N' B' st => h g L' h₁ FG F' N' B' (X₀.keeps st) (T.keeps st)) hcell hco hgen hk
end
/-- The entry of the law itself: a frame with cells, under the claim's caller. -/
theorem callH_cellsN {prog : Program} {w : World} {A : Around} {R : Result → Shared → Prop} {s : Shared} {name : Str} {params : Arguments} {body : List Stmt} {scope : Scope}
    {pm cd doc : Value} {a : Addr} {o : Obj} {args : List Value} {binds : List (Str × Value)}
    (hroom : A.depth < recursionLimit) (ho : s.heap.get? a = some o) (hdata : o.data = .func (Calls.docDef name params body scope pm cd doc)) (hlim : s.heap.NoLimit) (hcd : s.heap.CodeRec cd name)
    (hbind : bindArgs (Calls.docDef name params body scope pm cd doc) ⟨args, []⟩ = pure binds)
    (hkind : ∀ x ∈ binds, scope.names.lookup x.1 = some .local ∨ (scope.names.lookup x.1 = some .cell ∧ ((cellsFrom (s.heap.objs.size + 1) scope.names []).lookup x.1).isSome = true))
    (hnd : ((cellsFrom 0 scope.names []).map (·.1)).Nodup)
    (h : ∀ h₁ tk cells, Fr s.heap s.heap.objs.size h₁ (bindL (envOfC name scope s.heap.objs.size a cd).kindOf binds fun _ => none) → News s.heap s.heap.objs.size h₁ cells →
      CellsAre (bindC (envOfC name scope s.heap.objs.size a cd).kindOf binds fun _ => none) (cellsFrom (s.heap.objs.size + 1) scope.names []) cells →
      wpH (model prog w) (A.deeper (envOfC name scope s.heap.objs.size a cd)) (execs body (envOfC name scope s.heap.objs.size a cd))
        (fun f s' => R (.ok (.ret (match f with | .ret v => v | _ => .none))) s') (fun _ _ => False) { s with heap := h₁, toks := tk })
    (hco : scope.isCoroutine = false := by rfl) (hgen : scope.isGenerator = false := by rfl) (hk : scope.kind = .function := by rfl) :
    codeH (model prog w) A (.call (.ref a) ⟨args, []⟩) R s := by
  refine codeH.call_function (fd := Calls.docDef name params body scope pm cd doc) hroom ho hdata hco hgen rfl hcd ?_
  rw [hbind]
  refine wpAny_pure (wpAny_newFunctionEnv_cells hk hkind fun env' he s' x => ?_)
  subst he
  refine ⟨hlim.keeps x.toInCall.keep, codeH.func ?_⟩
  obtain ⟨h₁, tk, rfl, _⟩ := x.done
  obtain ⟨cells, NC, Y⟩ := Cl.news (h₀ := s.heap) (Nat.le_refl _) fun n c hm => ⟨x.cell n c (lookup_of_mem_nodup (cellsFrom_names scope.names 0 (s.heap.objs.size + 1) [] [] rfl ▸ hnd) hm), x.above n c hm⟩
  exact (h h₁ tk cells ⟨x.toInCall.ns, x.toInCall.keep, x.toInCall.fresh⟩ NC Y).mono (fun _ _ q => q) fun _ _ q => q.elim
def NextH (f : Flow) (P : Prop) : Prop := f = .next ∧ P
/-- A statement that every context may walk, then the rest. -/
theorem wpH.step {M : Model} {A : Around} {E : Value → Shared → Prop} {s : Shared} {env : Env} {st rest} {Q : Flow → Shared → Prop}
    (h : wpAny M A (exec st env) (fun f s' => NextH f (wpH M A (execs rest env) Q E s')) E s) : wpH M A (execs (st :: rest) env) Q E s :=
  wpH.execs_cons (wpH.up (wpAny_mono h (fun f s' ⟨e, q⟩ => by subst e; exact q) fun _ _ q => q))
end Mine
end
theorem Mine.fresh2 : True := by
  w_top off
  trivial
section
open PySem PySem.W PyProof.Rows PySem.Calls
namespace Mine
open PySem.Sem (wp)
abbrev Top0 : Ctx := ⟨.builtin "claim.caller" {}, none, none, [], none⟩
theorem hb_top (c : Code) (hd : Option Value) (p : Pos) : Hb (Top0.enter c hd p) := by
  show ((Top0.code, p) :: Top0.below).any _ = true
  rfl
/-- The walk's premise, for the call under the claim's caller alone. -/
abbrev WalkH (q : Program) (loose : List Str) (XP : (Str → Option Value) → Heap → Prop) (YP : World → Heap → Prop) (r : RowW) (d : DefRec) (kwd : List (Str × Expr)) : Prop :=
  ∀ (w : World) (s₀ s₁ : Shared) (mg mb : Str → Option Value), Ground q loose r.records XP w s₀ mg mb s₁.heap → YP w s₁.heap → ∀ (a : Addr) (o : Obj) (pm cd doc dV kV : Value), s₁.heap.get? a = some o →
    o.data = .func { docDef d.name d.params d.body d.scope pm cd doc with defaults := dV, kwdefaults := kV } → s₁.heap.CodeRec cd d.name → Dflts mg s₁.heap d.params kwd dV kV → mg d.name = some (.ref a) → s₁.gens = #[] →
    ∀ (args : List WData) (vals : List Value) (as : List Addr), r.claim.pre args = true → WData.layableAll args = true → ReadsAllW r.records (classAt s₀.heap) s₁.heap vals args as → WellAll w.params s₁.heap vals args → (∀ a ∈ as, (a == sysModules) = false) →
      codeH (model r.prog w) callerA (.call (.ref a) ⟨vals, []⟩) (fun res s' => GoodWG r.claim (classAt s₀.heap) (ExcName.means s₀.heap) args s₁ res s') s₁
theorem wp_stub {prog : Program} {w : World} {name : Str} {args : List Value} {s : Shared} {m : Str → Option Value} {f : Value} {R : Result → Shared → Prop}
    (hg : s.heap.Ns mainGlobals m) (hf : m name = some f) (h : codeH (model prog w) callerA (.call f ⟨args, []⟩) (fun r s' => R r s' ∧ ((∃ v, r = .ok (.ret v)) ∨ ∃ e, r = .error e)) s) :
    wp (model prog w) Top0 (callStub name args).cur (Sem.finPost (model prog w) Top0 R) (fun e _ s' => R (.error e) s') default s := by
  show wp (model prog w) Top0 (do match ← nsGet mainNs name with
      | some f => do ret (← PySem.call f args)
      | none => unsupported "claim.caller:no-such-global") _ _ default s
  rw [Sem.wp_bind']
  refine Sem.wp_mono _ _ _ (fun x p' s' q => ?_) (fun _ _ _ q => q) _ _ (wpAny_nsGet (A := callerA) (E := fun e s' => R (.error e) s') (Q := fun x s' => x = some f ∧ s' = s) hg ⟨hf, rfl⟩ Top0 default caller_in)
  obtain ⟨rfl, rfl⟩ := q
  show wp (model prog w) Top0 (do ret (← PySem.call f args)) _ _ p' s'
  rw [Sem.wp_bind']
  show wp (model prog w) Top0 (PySem.runValue (.call f ⟨args, []⟩)) _ _ p' s'
  rw [Sem.wp_runValue]
  refine wpCode_mono (fun r s'' q => ?_) (h (Top0.enter (.call f ⟨args, []⟩) none p') p' rfl (caller_in.enter (.call f ⟨args, []⟩) none p' (by intro x; cases x)) (hb_top _ _ _))
  obtain ⟨q, ⟨v, rfl⟩ | ⟨e, rfl⟩⟩ := q
  · exact q
  · exact q

/-- The head of the library's open rows, with a walk for the call under the claim's caller alone. -/
theorem holds_under {r : OpenRow} {q : Program} {loose : List Str} {Xt : Shared → Bool} {XP : (Str → Option Value) → Heap → Prop} {α : Type} {Yf : Shared → α} {Ya : World → α} {YP : World → Heap → Prop} {d : DefRec} {kwd : List (Str × Expr)} {N : Nat}
    (left : LeftO r.prog q loose Xt Yf Ya N) (hY : ∀ w s, Yf s = Ya w → YP w s.heap) (hYk : ∀ w h h', YP w h → (∀ b o, h.get? b = some o → h'.get? b = some o) → YP w h')
    (hX : ∀ s, Xt s = true → XP (s.heap.nsMap mainGlobals) s.heap) (hXk : ∀ mg h h', XP mg h → (∀ b o, h.get? b = some o → h'.get? b = some o) → XP mg h')
    (hdef : defOf q r.name = some (d, kwd)) (hp : r.prog.theDef r.name = some (d.params, d.body, d.scope)) (hk : kwWritten? d.params.kwonlyargs d.params.kw_defaults = some kwd) (hRf : ∀ s, Xt s = true → RecFacts r.records s.heap) (hwr : (!r.writes || r.records.isEmpty) = true)
    (k1 : r.wellSaid = true) (ok : (chainsOk q && opensWell r.prog && (frees r.toRowW && r.within.isEmpty)) = true) (hb : r.prog.bare) (hw : r.toRowW.promised)
    (call : WalkH q loose XP YP r.toRowW d kwd) : r.Holds := by
  obtain ⟨ok, ok2⟩ := Bool.and_eq_true_iff.mp ok
  obtain ⟨chains, opens⟩ := Bool.and_eq_true_iff.mp ok
  obtain ⟨fr, wi⟩ := Bool.and_eq_true_iff.mp ok2
  obtain ⟨same, un, ap, ap', mk⟩ := frees_parts fr
  have hfree : ∀ a b, r.toRowW.claim.ident a b = true := ident_freeW un ap ap'
  have hwi : r.toRowW.claim.within = [] := List.isEmpty_iff.mp wi
  refine ⟨k1, hw, ⟨hb, opens, by show r.makers.map _ = []; rw [mk]; rfl⟩, hw.witness, fun w => ?_⟩
  obtain ⟨runs, each⟩ := left.behind (XP := fun mg h => XP mg h ∧ RecFacts r.records h) (fun s hs => ⟨hX s hs, hRf s hs⟩) chains w
  refine ⟨runs, fun t ht => ?_⟩
  obtain ⟨s₀, fence, none0, s, ran, asleep, gens, main, G2, y⟩ := each t ht
  have G1 : Ground q loose [] XP w s (s.heap.nsMap mainGlobals) (s.heap.nsMap builtinsNs) s.heap := { G2 with X := G2.X.1 }
  have RF := G2.X.2
  have gens : s.gens = #[] := Array.eq_empty_of_size_eq_zero (beq_iff_eq.mp gens)
  refine ⟨s₀, fence, none0, s, ran, fun n hn => ?_, RF.1, RF.2.1, fun args hpre hlay ord hord => ?_⟩
  · obtain rfl : n = r.name := by split at hn <;> simp_all
    exact pinned_of_view main G1 hdef hp hk
  have G : Ground q loose r.records XP w s (s.heap.nsMap mainGlobals) (s.heap.nsMap builtinsNs) s.heap := RF.ground G1
  obtain ⟨⟨vs, s₁⟩, hlaid⟩ := Option.isSome_iff_exists.mp (layAllW_isSome (P := w.params) (ord := ord) G.has args r.args s (pre_splitW hpre).1)
  have keeps := layAllW_keeps _ _ _ hlaid
  have rest := layAllW_rest _ _ _ hlaid
  obtain ⟨as, hrd, hin, hold⟩ := reads_layAllW hord _ _ _ hlaid hlay s₁.heap (fun _ _ e => e)
  have L : Laid r.records w s s₁ args vs as := ⟨⟨ord, hord, hlaid⟩, hrd, hin, hold, keeps, rest.1.trans gens, rest.2.2.1⟩
  have G₁ := G.keeps hXk keeps
  obtain ⟨a, o, pm, cd, doc, dV, kV, h1, h2, h3, h4, h5⟩ := G₁.fn hdef
  have W := call w s s₁ _ _ G₁ (hYk _ _ _ (hY w s y) keeps) a o pm cd doc dV kV h2 h3 h4 h5 (defOf_name hdef ▸ h1) L.gens args vs as hpre hlay L.reads L.well (L.low G.low)
  have W' := W.mono (R' := fun res s' => (((r.toRowW.claim.Ends s args vs s₁ res s' ∧ s'.os = s.os ∧ (r.writes = true → namesKept r.prog r.keeps s.heap s'.heap ∧ ∀ x ∈ r.records, ∀ a, classAt s.heap x.1 = some a → recordClass s'.heap a x.1 (x.2.map (·.1)) = true)) ∧ leftWithCleanup s'.gens = false)) ∧ ((∃ v, res = .ok (.ret v)) ∨ ∃ e, res = .error e)) (fun res s' g => by
    have z := g.laid (c := r.toRowW.claim) same hwi hfree L
    refine ⟨⟨⟨z.1, z.2.1, fun q => ⟨namesKept_of ran main r.keeps keeps g.2.1.old, noTable hwr q⟩⟩, leftWithCleanup_false_of_bare z.2.2⟩, ?_⟩
    rcases g.1 with ⟨v, _, _, e, _⟩ | ⟨e, _, _, e', _⟩
    · exact .inl ⟨v, e⟩
    · exact .inr ⟨_, e'⟩)
  obtain ⟨n, res, s', s'', hs, hn, hfo, hR⟩ := wp_halts_full (M := model r.prog w) (R := fun res s' => r.toRowW.claim.Ends s args vs s₁ res s' ∧ s'.os = s.os ∧ (r.writes = true → namesKept r.prog r.keeps s.heap s'.heap ∧ ∀ x ∈ r.records, ∀ a, classAt s.heap x.1 = some a → recordClass s'.heap a x.1 (x.2.map (·.1)) = true)) (Shared.asleep_of_life rest.2.2.2 asleep) (wp_stub G₁.T.g h1 W')
  have hlife : s''.heap.life = s.heap.life := (runN_life _ _ _ hn).trans rest.2.2.2
  obtain ⟨eh, _, _, eo, _⟩ := Shared.forget_eq hfo
  obtain ⟨hcase, hos, hkp⟩ := hR
  have hcase : r.toRowW.claim.Ends s args vs s₁ res s'' := hcase.congr eh
  have hos : s''.os = s.os := eo.trans hos
  have hkp := fun q : r.writes = true => eh.symm ▸ hkp q
  refine ⟨vs, s₁, hlaid, n, outcomeOf res, s'', hs, ?_, (fun _ i x hx => by rw [gens] at hx; simp at hx), hkp, by rw [hlife], Shared.rest_eq hos⟩
  rcases hcase with ⟨v, rfl, d1, d2, d3, d4, d5⟩ | ⟨e, ob, cls, rfl, d1, d2, d3, d4, d5⟩
  · exact .inl ⟨v, rfl, d1, d2, d3, fun b o y _ => d4 b o y, d5⟩
  · exact .inr ⟨e, ob, cls, rfl, d1, d2, d3, d4, fun b o y _ => d5 b o y⟩
end Mine
end
theorem Mine.fresh3 : True := by
  w_top off
  trivial
section
open PySem PySem.W PyProof.Rows
namespace Mine.PySem.W
/-- Under this namespace the library's head tactic finds the head above. -/
theorem holds_open : type_of% @Mine.holds_under := @Mine.holds_under
end Mine.PySem.W
namespace Mine
set_option maxRecDepth 100000
set_option maxHeartbeats 8000000
open_top hd for PySem.Challenge.rw_wn0026_01
end Mine
end
theorem Mine.fresh4 : True := by
  w_top off
  trivial
section
open PySem PySem.W PyProof.Rows
namespace Mine
noncomputable abbrev PR : Program := PySem.Challenge.rw_wn0026_01.row.prog
noncomputable abbrev LO : List Str := looseW Mine.hd.view_39 [Str.ofString "_twin_re_1", Str.ofString "_ver_stages", Str.ofString "_norm_version"]
def Tells (w : World) (f : Addr) (news : List (Addr × Obj)) (vs : List Value) (Post : List (Addr × Obj) → Value → Prop) : Prop :=
  ∀ (mean : ExcName → Option Value) (mg mb : Str → Option Value) (dp un : Nat) (gd : Option (List Code)) (cn : Str) (cs : Scope) (a : Addr) (ccd : Value) (cl : List (Str × Addr)) (outer : List Env) (A₀ : Around)
    (base h₀ : Heap) (L : Addr) (m : Str → Option Value) (s : Shared) (Q E : Value → Shared → Prop),
   Below A₀ base outer h₀ → Fr h₀ L s.heap m → (Mine.hd.heap_39 w.params).In h₀ → News h₀ L s.heap news → Top Mine.hd.view_39 LO mean mg mb h₀ → cs.kind = .function →
   dp + 2 < recursionLimit → un + 40 < cLine →
   (∀ v h' tk' new, Fr h₀ L h' m → News h₀ L h' (new ++ news) → (∀ q ∈ news, ∀ p ∈ new, q.1 < p.1) → Post new v → Q v { s with heap := h', toks := tk' }) →
   wpAny (model PySem.Challenge.rw_wn0026_01.row.prog w) (ktrTop dp un gd cn cs L a ccd cl outer) (call (.ref f) vs) Q E s
def TellsH (w : World) (f : Addr) (news : List (Addr × Obj)) (vs : List Value) (Post : List (Addr × Obj) → Value → Prop) : Prop :=
  ∀ (mean : ExcName → Option Value) (mg mb : Str → Option Value) (dp un : Nat) (gd : Option (List Code)) (cn : Str) (cs : Scope) (a : Addr) (ccd : Value) (cl : List (Str × Addr)) (outer : List Env) (A₀ : Around)
    (base h₀ : Heap) (L : Addr) (m : Str → Option Value) (s : Shared) (Q E : Value → Shared → Prop),
   Below A₀ base outer h₀ → Fr h₀ L s.heap m → (Mine.hd.heap_39 w.params).In h₀ → News h₀ L s.heap news → Top Mine.hd.view_39 LO mean mg mb h₀ → cs.kind = .function →
   dp + 2 < recursionLimit → un + 40 < cLine →
   (∀ v h' tk' new, Fr h₀ L h' m → News h₀ L h' (new ++ news) → (∀ q ∈ news, ∀ p ∈ new, q.1 < p.1) → Post new v → Q v { s with heap := h', toks := tk' }) →
   wpH (model PySem.Challenge.rw_wn0026_01.row.prog w) (ktrTop dp un gd cn cs L a ccd cl outer) (call (.ref f) vs) Q E s
def Fill (_ : OpenLaw) (_ : Params → Frag) : Prop := True
end Mine
end
theorem Mine.fresh5 : True := by
  w_top off
  trivial
local macro_rules | `(tactic| omega) => `(tactic| lia)
section
open PySem PySem.W PyProof.Rows
set_option maxRecDepth 100000
set_option maxHeartbeats 8000000
namespace Mine

theorem allLt_mem {l : Addr} : ∀ {news : List (Addr × Obj)}, AllLt l news → ∀ p ∈ news, p.1 < l
  | [], _, _, hp => nomatch hp
  | _ :: _, h, _, .head _ => h.1
  | _ :: _, h, _, .tail _ hp => allLt_mem h.2 _ hp
theorem one_lt {l : Addr} {o : Obj} {news : List (Addr × Obj)} (h : AllLt l news) : ∀ q ∈ news, ∀ p ∈ [(l, o)], q.1 < p.1 := fun q hq p hp => by
  rw [List.mem_singleton.mp hp]; exact allLt_mem h q hq
theorem news_one {h₀ h : Heap} {L l : Addr} {o : Obj} {big news : List (Addr × Obj)} (N : News h₀ L h big) (hm : (l, o) ∈ big) (hs : ∀ p ∈ news, p ∈ big) : News h₀ L h ([(l, o)] ++ news) := fun p hp => by
  rcases List.mem_append.mp hp with h | h
  · rw [List.mem_singleton.mp h]; exact N _ hm
  · exact N _ (hs p h)
theorem news_drop {h₀ h : Heap} {L : Addr} {big news : List (Addr × Obj)} (N : News h₀ L h big) (hs : ∀ p ∈ news, p ∈ big) : News h₀ L h news := fun p hp => N p (hs p hp)
def Hold (P : Prop) : Prop := P
theorem Hold.out {P : Prop} (h : Hold P) : P := h
theorem my_item {prog : Program} {w : World} {A : Around} {E : Value → Shared → Prop} {s : Shared} {value slice : PySem.Expr} {l : Addr} {vs : List Value} {k : Int} {u : Tok} {v : Value} {Q : Value → Shared → Prop}
    (hl : s.heap.IsList l vs.toArray) (h0 : 0 ≤ k) (hhi : k < 2 ^ 63) (hx : vs[k.toNat]? = some v) (h : Q v s)
    (hs : subscripted slice false (.ref l) (.int k u) = operate [.ref l, .int k u] (getItem (.ref l) (.int k u)) := by with_unfolding_all rfl) :
    wpAny (model prog w) A (subscriptTail value slice (.ref l) (.int k u)) Q E s :=
  tail_any hl.typeIs slot_list_getitem.lookup (wpAny_getItem_list hl h0 hhi (by simpa using hx) h) hs
theorem news_cons {h₀ h : Heap} {L l : Addr} {o : Obj} {news : List (Addr × Obj)} (N : News h₀ L h news) (hm : (l, o) ∈ news) : News h₀ L h ((l, o) :: news) := fun p hp => by
  rcases List.mem_cons.mp hp with h | h
  · rw [h]; exact N _ hm
  · exact N _ h
theorem isList_of {h₀ h : Heap} {L l : Addr} {its : Array Value} {n : Nat} {news : List (Addr × Obj)} (N : News h₀ L h news) (hm : (l, listOf its n) ∈ news) : h.IsList l its := ⟨_, (N _ hm).1, rfl, n, rfl⟩
end Mine
end
theorem Mine.fresh6 : True := by
  w_top off
  trivial
section
open PySem PySem.W PyProof.Rows PySem.Calls
namespace Mine
def bodyOf : Stmt → List Stmt
  | .FunctionDef _ _ b _ _ _ _ _ _ _ => b
  | .For _ _ b _ _ => b
  | _ => []
def scopeOf : Stmt → Scope
  | .FunctionDef _ _ _ _ _ _ s _ _ _ => s
  | _ => default
noncomputable def lawDef : Stmt := PySem.Challenge.pw_wn0026_01.main.body.getD 16 default
noncomputable def lawBody : List Stmt := bodyOf lawDef
noncomputable def lawScope : Scope := scopeOf lawDef
noncomputable def turnBody : List Stmt := bodyOf (lawBody.getD 9 default)
noncomputable abbrev lawEnv (L fa : Addr) (cdv : Value) : Env := envOfC (Str.ofString "law") lawScope L fa cdv
noncomputable abbrev lawA (L fa : Addr) (cdv : Value) : Around := callerA.deeper (lawEnv L fa cdv)
theorem execs_append (env : Env) (b : List Stmt) : ∀ a : List Stmt, execs (a ++ b) env = (execs a env >>= fun f => match f with | .next => execs b env | f => pure f)
  | [] => by rw [List.nil_append, PySem.execs_nil, pure_bind]
  | st :: a => by
    rw [List.cons_append, PySem.execs_cons, PySem.execs_cons, bind_assoc]
    congr 1
    funext f
    cases f with
    | next => exact execs_append env b a
    | _ => rfl
theorem wpH.execs_append {M : Model} {A : Around} {E : Value → Shared → Prop} {env : Env} {Q : Flow → Shared → Prop} {a b : List Stmt} {s : Shared}
    (h : wpH M A (execs a env) (fun f s' => match f with | .next => wpH M A (execs b env) Q E s' | f => Q f s') E s) : wpH M A (execs (a ++ b) env) Q E s := by
  rw [Mine.execs_append]
  refine wpH.bind (h.mono (fun f s' h' => ?_) fun _ _ q => q)
  cases f with
  | next => exact h'
  | _ => exact wpH.pure h'
end Mine
end
theorem Mine.fresh7 : True := by
  w_top off
  trivial
section
open PySem PySem.W PyProof.Rows
set_option maxRecDepth 100000
set_option maxHeartbeats 8000000
namespace Mine

theorem my_cat {prog : Program} {w : World} {A : Around} {E : Value → Shared → Prop} {s : Shared} {x y : Str} {t u : Tok} {Q : Value → Shared → Prop} (hsz : x.length + y.length ≤ sizeLine)
  (h : ∀ t' tk, Q (.str (x ++ y) t') { s with toks := tk }) : wpAny (model prog w) A (binaryOp .Add (.str x t) (.str y u)) Q E s := PyProof.Rows.add_str h hsz
theorem fold_rep (n : Nat) : ∀ acc : Array Nat, List.foldl (fun x1 x2 => x1 ++ x2) acc (List.replicate n #[32]) = acc ++ (List.replicate n 32).toArray := by
  induction n with
  | zero => intro acc; simp
  | succ n ih => intro acc; rw [List.replicate_succ, List.foldl_cons, ih]; apply Array.ext'; simp [List.replicate_succ]
theorem mul_sp (n : Int) : Txt.mul (Str.ofString " ") n = ⟨(List.replicate n.toNat 32).toArray⟩ := by
  have e : Str.ofString " " = ⟨#[32]⟩ := by decide +kernel
  rw [e]
  unfold Txt.mul
  split
  · have : n.toNat = 0 := by omega
    rw [this]; rfl
  · split
    · rename_i h1 h2
      have : n = 1 := by
        simp only [Bool.or_eq_true, beq_iff_eq] at h2
        rcases h2 with h2 | h2
        · exact h2
        · exact absurd h2 (by decide)
      subst this; rfl
    · show Str.mk _ = _
      congr 1
      rw [fold_rep]; simp
theorem mul_sp_len (n : Int) : (Txt.mul (Str.ofString " ") n).length = n.toNat := by
  rw [mul_sp]; simp [Str.length]
def lineN (a b : Nat) : Str := ⟨(List.replicate a 32 ++ 9 :: List.replicate b 32).toArray⟩
theorem lineN_eq (n m : Int) : Txt.mul (Str.ofString " ") n ++ Str.ofString "\t" ++ Txt.mul (Str.ofString " ") m = lineN n.toNat m.toNat := by
  rw [mul_sp, mul_sp, show Str.ofString "\t" = ⟨#[9]⟩ by decide +kernel]
  apply PySem.Str.ext'
  apply Array.ext'
  show (((List.replicate n.toNat 32).toArray ++ #[9]) ++ (List.replicate m.toNat 32).toArray).toList = _
  simp [lineN]
end Mine
end
theorem Mine.fresh8 : True := by
  w_top off
  trivial
section
open PySem PySem.W PyProof.Rows PySem.Calls
namespace Mine
open PyProof.Rows.TI in
section
variable {prog : Program} {w : World} {A : Around} {s : Shared} {h₀ : Heap} {L : Addr} {m : Str → Option Value} {ce : Env} {l : List Env} {frs news : List (Addr × Obj)} {K : Frag} {p : Program} {loose : List Str} {mean : ExcName → Option Value} {mg mb : Str → Option Value}
  {R : Result → Shared → Prop} {name qual : Str} {params : Arguments} {body : List Stmt} {scope : Scope} {dV kV doc pm cdv ct oc : Value} {an od : Option Addr} {osl : Array (Option Value)} {f : Addr} {args : Args} {binds : List (Str × Value)}
/-- What stands at the first line of a helper whose caller's frames lie on the ledger. -/
structure AtTop (h₀ : Heap) (L : Addr) (m : Str → Option Value) (ce : Env) (l : List Env) (frs news : List (Addr × Obj)) (bs : Str → Option Value) (oL : Obj) (L' : Addr) (h₁ : Heap) : Prop where
  caller : Caller h₀ L m oL
  hfrs : Frs (ce :: l) ((L, oL) :: frs)
  ne : ∀ p ∈ frs, p.1 ≠ L
  apart : ∀ p ∈ news, p.1 ∉ ((L, oL) :: frs).map (·.1)
  hfr : Fr h₀ L' h₁ bs
  hnews : News h₀ L' h₁ (news ++ ((L, oL) :: frs))
  lt : ∀ p ∈ news ++ ((L, oL) :: frs), p.1 < L'
theorem at_top (F : Fr h₀ L s.heap m) (N : News h₀ L s.heap (news ++ frs)) (Fs : Frs l frs) (hf : ce.frame = some L) (hke : ce.scope.kind = .function) (hap : ∀ p ∈ news, p.1 ∉ frs.map (·.1))
    {bs : Str → Option Value} {h₁ : Heap} (hns : h₁.Ns s.heap.objs.size bs) (up : ∀ b o, s.heap.get? b = some o → h₁.get? b = some o) : ∃ oL, AtTop h₀ L m ce l frs news bs oL s.heap.objs.size h₁ := by
  obtain ⟨oL, es, ep, hL, hLd, hLk, hLf⟩ := F.ns
  have hLt := Heap.lt_size hL
  have hkind : ce.scope.kind ≠ .module := by rw [hke]; decide
  refine ⟨oL, ⟨fun h' sl e => ⟨_, es, ep, e, hLd, hLk, hLf⟩, ⟨es, ep, hLd⟩, F.above⟩, ⟨hkind, hf, ⟨es, ep, hLd⟩, Fs⟩, fun p hp => (N p (List.mem_append_right _ hp)).2.1, fun p hp q => ?_, ⟨hns, fun b o e => up b o (F.keep b o e), Nat.le_trans F.above (Nat.le_of_lt hLt)⟩, fun p hp => ?_, fun p hp => ?_⟩
  · rcases List.mem_cons.mp q with q | q
    · exact (N p (List.mem_append_left _ hp)).2.1 q
    · exact hap p hp q
  · rcases List.mem_append.mp hp with hp | hp
    · obtain ⟨h1, h2, h3⟩ := N p (List.mem_append_left _ hp)
      exact ⟨up _ _ h1, Nat.ne_of_lt (Heap.lt_size h1), h3⟩
    · rcases List.mem_cons.mp hp with rfl | hp
      · exact ⟨up _ _ hL, Nat.ne_of_lt hLt, Heap.get?_none_of_le F.above⟩
      · obtain ⟨h1, h2, h3⟩ := N p (List.mem_append_right _ hp)
        exact ⟨up _ _ h1, Nat.ne_of_lt (Heap.lt_size h1), h3⟩
  · rcases List.mem_append.mp hp with hp | hp
    · exact Heap.lt_size (N p (List.mem_append_left _ hp)).1
    · rcases List.mem_cons.mp hp with rfl | hp
      · exact hLt
      · exact Heap.lt_size (N p (List.mem_append_right _ hp)).1
theorem codeHF_def (F : Fr h₀ L s.heap m) (X₀ : K.In h₀) (N : News h₀ L s.heap (news ++ frs)) (T : Top p loose mean mg mb h₀) (_hA : A.frames = some (ce :: l)) (Fs : Frs l frs) (hf : ce.frame = some L) (hke : ce.scope.kind = .function) (hap : ∀ p ∈ news, p.1 ∉ frs.map (·.1))
    (ho : K.lookup f = some ⟨oc, od, .func (fnOf name qual params body scope dV kV doc pm an cdv ct), osl⟩) (hcd : codeIn K cdv qual = true) (hroom : A.depth < recursionLimit)
    (hbind : BindsTo s (fnOf name qual params body scope dV kV doc pm an cdv ct) args binds) (hloc : ∀ y ∈ binds, scope.names.lookup y.1 = some .local)
    (h : ∀ oL L' h₁, AtTop h₀ L m ce l frs news (fun y => binds.reverse.lookup y) oL L' h₁ →
      wpH (model prog w) (A.deeper (envOf qual scope L' f cdv)) (execs body (envOf qual scope L' f cdv))
        (fun fl s' => R (.ok (.ret (match fl with | .ret v => v | _ => .none))) s') (fun _ _ => False) { s with heap := h₁, toks := s.toks + binds.length })
    (hco : scope.isCoroutine = false) (hgen : scope.isGenerator = false) (hk : scope.kind = .function)
    (hcell : ∀ x ∈ scope.names, x.2 ≠ .cell) : codeH (model prog w) A (.call (.ref f) args) R s := by
  have X := X₀.keeps F.keep
  refine codeH.call_function (fd := fnOf name qual params body scope dV kV doc pm an cdv ct) hroom (X _ _ ho) rfl hco hgen rfl (codeRec_of X hcd) (hbind _ _ _ _ ?_)
  refine wpAny_newFunctionEnv hcell hloc (fun h₁ hns hsb => ⟨(T.nolimit.keeps F.keep).fresh _ hsb, codeH.func ?_⟩) hk
  obtain ⟨oL, at'⟩ := at_top (ce := ce) F N Fs hf hke hap hns (fun b o e => hsb.extBut b o (Nat.ne_of_lt (Heap.lt_size e)) (Heap.get?_push_of_some _ e))
  exact (h oL _ h₁ at').mono (fun _ _ q => q) fun _ _ q => q.elim
theorem codeF_def (F : Fr h₀ L s.heap m) (X₀ : K.In h₀) (N : News h₀ L s.heap (news ++ frs)) (T : Top p loose mean mg mb h₀) (_hA : A.frames = some (ce :: l)) (Fs : Frs l frs) (hf : ce.frame = some L) (hke : ce.scope.kind = .function) (hap : ∀ p ∈ news, p.1 ∉ frs.map (·.1))
    (ho : K.lookup f = some ⟨oc, od, .func (fnOf name qual params body scope dV kV doc pm an cdv ct), osl⟩) (hcd : codeIn K cdv qual = true) (hroom : A.depth < recursionLimit)
    (hbind : BindsTo s (fnOf name qual params body scope dV kV doc pm an cdv ct) args binds) (hloc : ∀ y ∈ binds, scope.names.lookup y.1 = some .local)
    (h : ∀ oL L' h₁, AtTop h₀ L m ce l frs news (fun y => binds.reverse.lookup y) oL L' h₁ →
      wpAny (model prog w) (A.deeper (envOf qual scope L' f cdv)) (execs body (envOf qual scope L' f cdv))
        (fun fl s' => R (.ok (.ret (match fl with | .ret v => v | _ => .none))) s') (fun _ _ => False) { s with heap := h₁, toks := s.toks + binds.length })
    (hco : scope.isCoroutine = false) (hgen : scope.isGenerator = false) (hk : scope.kind = .function)
    (hcell : ∀ x ∈ scope.names, x.2 ≠ .cell) : codeAny (model prog w) A (.call (.ref f) args) R s := by
  have X := X₀.keeps F.keep
  refine codeAny_call_def (fd := fnOf name qual params body scope dV kV doc pm an cdv ct) (body := body) (binds := binds) hroom (X _ _ ho) rfl (T.nolimit.keeps F.keep) (codeRec_of X hcd) rfl hbind hcell hloc (fun h₁ hns hk₁ => ?_) hco hgen hk
  obtain ⟨oL, at'⟩ := at_top (ce := ce) F N Fs hf hke hap hns hk₁
  exact wpAny_mono (h oL _ h₁ at') (fun _ _ q => q) fun _ _ q => q.elim
/-- Back in the caller's frame. -/
theorem AtTop.home {bs : Str → Option Value} {oL : Obj} {L' : Addr} {h₁ : Heap} (T : AtTop h₀ L m ce l frs news bs oL L' h₁) {s' : Shared} {m' : Str → Option Value} {new frs₂ : List (Addr × Obj)} (F' : Fr h₀ L' s'.heap m')
    (SU : SameUp ((L, oL) :: frs) frs₂) (N' : News h₀ L' s'.heap (new ++ (news ++ frs₂))) (hlt : ∀ q ∈ news ++ ((L, oL) :: frs), ∀ p ∈ new, q.1 < p.1) :
    ∃ frs', Fr h₀ L s'.heap m ∧ SameUp frs frs' ∧ Frs l frs' ∧ News h₀ L s'.heap (new ++ (news ++ frs')) ∧ ∀ q ∈ news ++ frs, ∀ p ∈ new, q.1 < p.1 := by
  cases frs₂ with
  | nil => exact False.elim SU
  | cons q qs =>
    obtain ⟨h1, ⟨sl, h2⟩, SU'⟩ := SU
    have h1' : q.1 = L := h1
    have h2' : q.2 = { oL with slots := sl } := h2
    have hq := (N' q (List.mem_append_right _ (List.mem_append_right _ List.mem_cons_self))).1
    rw [h1', h2'] at hq
    have Fs' := T.hfrs.2.2.2.up SU'
    refine ⟨qs, ⟨T.caller.ns _ sl hq, F'.keep, T.caller.above⟩, SU', Fs', fun p hp => ?_, fun q' hq' p hp => ?_⟩
    · have hmem : p ∈ new ++ (news ++ q :: qs) := by
        rcases List.mem_append.mp hp with hp | hp
        · exact List.mem_append_left _ hp
        · rcases List.mem_append.mp hp with hp | hp
          · exact List.mem_append_right _ (List.mem_append_left _ hp)
          · exact List.mem_append_right _ (List.mem_append_right _ (List.mem_cons_of_mem _ hp))
      obtain ⟨x1, _, x3⟩ := N' p hmem
      refine ⟨x1, fun e => ?_, x3⟩
      rcases List.mem_append.mp hp with hp | hp
      · exact absurd (hlt (L, oL) (List.mem_append_right _ List.mem_cons_self) p hp) (by rw [e]; exact Nat.lt_irrefl _)
      · rcases List.mem_append.mp hp with hp | hp
        · exact T.apart p hp (by rw [e]; exact List.mem_cons_self)
        · obtain ⟨x, hx, q'⟩ := SU'.fwd p hp
          exact T.ne x hx (by rw [← q', e])
    · refine hlt q' ?_ p hp
      rcases List.mem_append.mp hq' with hq' | hq'
      · exact List.mem_append_left _ hq'
      · exact List.mem_append_right _ (List.mem_cons_of_mem _ hq')
end
def TellsF (w : World) (f : Addr) (news : List (Addr × Obj)) (vs : List Value) (Post : List (Addr × Obj) → Value → Prop) : Prop :=
  ∀ (mean : ExcName → Option Value) (mg mb : Str → Option Value) (dp un : Nat) (gd : Option (List Code)) (cn : Str) (cs : Scope) (a : Addr) (ccd : Value) (cl : List (Str × Addr)) (outer : List Env) (frs : List (Addr × Obj))
    (h₀ : Heap) (L : Addr) (m : Str → Option Value) (s : Shared) (Q E : Value → Shared → Prop),
   TI.Frs outer frs → Fr h₀ L s.heap m → (Mine.hd.heap_39 w.params).In h₀ → News h₀ L s.heap (news ++ frs) → Top Mine.hd.view_39 LO mean mg mb h₀ → cs.kind = .function →
   dp + 2 < recursionLimit → un + 40 < cLine → (∀ p ∈ news, p.1 ∉ frs.map (·.1)) →
   (∀ v h' tk' new frs', Fr h₀ L h' m → TI.SameUp frs frs' → TI.Frs outer frs' → News h₀ L h' (new ++ (news ++ frs')) → (∀ q ∈ news ++ frs, ∀ p ∈ new, q.1 < p.1) → Post new v → Q v { s with heap := h', toks := tk' }) →
   wpAny (model PySem.Challenge.rw_wn0026_01.row.prog w) (ktrTop dp un gd cn cs L a ccd cl outer) (call (.ref f) vs) Q E s
def TellsHF (w : World) (f : Addr) (news : List (Addr × Obj)) (vs : List Value) (Post : List (Addr × Obj) → Value → Prop) : Prop :=
  ∀ (mean : ExcName → Option Value) (mg mb : Str → Option Value) (dp un : Nat) (gd : Option (List Code)) (cn : Str) (cs : Scope) (a : Addr) (ccd : Value) (cl : List (Str × Addr)) (outer : List Env) (frs : List (Addr × Obj))
    (h₀ : Heap) (L : Addr) (m : Str → Option Value) (s : Shared) (Q E : Value → Shared → Prop),
   TI.Frs outer frs → Fr h₀ L s.heap m → (Mine.hd.heap_39 w.params).In h₀ → News h₀ L s.heap (news ++ frs) → Top Mine.hd.view_39 LO mean mg mb h₀ → cs.kind = .function →
   dp + 2 < recursionLimit → un + 40 < cLine → (∀ p ∈ news, p.1 ∉ frs.map (·.1)) →
   (∀ v h' tk' new frs', Fr h₀ L h' m → TI.SameUp frs frs' → TI.Frs outer frs' → News h₀ L h' (new ++ (news ++ frs')) → (∀ q ∈ news ++ frs, ∀ p ∈ new, q.1 < p.1) → Post new v → Q v { s with heap := h', toks := tk' }) →
   wpH (model PySem.Challenge.rw_wn0026_01.row.prog w) (ktrTop dp un gd cn cs L a ccd cl outer) (call (.ref f) vs) Q E s
end Mine
end
theorem Mine.fresh9 : True := by
  w_top off
  trivial
section
open PySem PySem.W PyProof.Rows
namespace Mine
namespace Rex
abbrev RC : Array Nat := #[14,4,0,1,4294967295,17,0,7,14,24,10,1,4294967295,13,5,22,48,57,0,1,15,17,15,13,11,9,0,26624,2147483648,0,0,0,0,0,0,15,2,0,17,1,1]
def dig (c : Nat) : Bool := decide (48 ≤ c) && decide (c ≤ 57)
def sep (c : Nat) : Bool := decide (c < 256) && (RC.getD (23 + 3 + c / 32) 0).testBit (c % 32)
theorem acc1 (c : Nat) (seen : Sre.Seen) (h : dig c = true) : Sre.accepts RC 13 c seen = .ok (true, seen.add 22) := by
  show (if (decide (48 ≤ c) && decide (c ≤ 57)) = true then Except.ok (true, seen.add 22) else _) = _
  exact if_pos h
theorem acc0 (c : Nat) (seen : Sre.Seen) (h : dig c = false) : Sre.accepts RC 13 c seen = .ok (false, (seen.add 22).add 0) := by
  show (if (decide (48 ≤ c) && decide (c ≤ 57)) = true then Except.ok (true, seen.add 22) else .ok (false, (seen.add 22).add 0)) = _
  exact if_neg (by rw [show (decide (48 ≤ c) && decide (c ≤ 57)) = false from h]; decide)
theorem sac1 (c : Nat) (seen : Sre.Seen) (h : sep c = true) : Sre.accepts RC 23 c seen = .ok (true, seen.add 9) := by
  show (if (decide (c < 256) && (RC.getD (25 + (1 + c / 32)) 0).testBit (c % 32)) = true then Except.ok (true, seen.add 9) else _) = _
  have e : 25 + (1 + c / 32) = 23 + 3 + c / 32 := by omega
  rw [e]
  exact if_pos h
theorem sac0 (c : Nat) (seen : Sre.Seen) (h : sep c = false) : Sre.accepts RC 23 c seen = .ok (false, (seen.add 9).add 0) := by
  show (if (decide (c < 256) && (RC.getD (25 + (1 + c / 32)) 0).testBit (c % 32)) = true then Except.ok (true, seen.add 9) else .ok (false, (seen.add 9).add 0)) = _
  have e : 25 + (1 + c / 32) = 23 + 3 + c / 32 := by omega
  rw [e]
  exact if_neg (by rw [show (decide (c < 256) && (RC.getD (23 + 3 + c / 32) 0).testBit (c % 32)) = false from h]; decide)
theorem run_k (T : Array Nat) : ∀ (k n p found : Nat) (seen : Sre.Seen), (∀ i, i < k → dig (T.getD (p + i) 0) = true) → k ≤ n → (k = n ∨ dig (T.getD (p + k) 0) = false) →
    ∃ seen', Sre.run RC T 13 n p found seen = .ok (found + k, seen')
  | 0, 0, p, found, seen, _, _, _ => ⟨_, rfl⟩
  | 0, n + 1, p, found, seen, _, _, h => by
    have h0 : dig (T.getD p 0) = false := by rcases h with h | h; (· omega); (· simpa using h)
    exact ⟨_, by unfold Sre.run; rw [acc0 _ _ h0]; rfl⟩
  | k + 1, 0, _, _, _, _, h, _ => absurd h (by omega)
  | k + 1, n + 1, p, found, seen, hd, hk, h => by
    have h0 : dig (T.getD p 0) = true := by simpa using hd 0 (by omega)
    obtain ⟨s', e⟩ := run_k T k n (p + 1) (found + 1) (seen.add 22) (fun i hi => by have := hd (i + 1) (by omega); rw [show p + 1 + i = p + (i + 1) from by omega]; exact this) (by omega)
      (by rcases h with h | h; (· left; omega); (· right; rw [show p + 1 + k = p + (k + 1) from by omega]; exact h))
    refine ⟨s', ?_⟩
    unfold Sre.run; rw [acc1 _ _ h0]
    show Sre.run RC T 13 n (p + 1) (found + 1) (seen.add 22) = _
    rw [e]; congr 2; omega
def ST (T : Array Nat) (lim start pc pos handed : Nat) (om : Bool) (marks : Array (Option Nat)) (lm li : Int) (frames : List Sre.Frame) (weight : Nat) (answer : Option Bool) (seen : Sre.Seen) (out : Option Sre.Outcome) : Sre.M :=
  { code := RC, text := T, lim := lim, start := start, lastStart := lim, pc := pc, pos := pos, handed := handed, outermost := om, marks := marks, lastmark := lm, lastindex := li, frames := frames, weight := weight, answer := answer, seen := seen, outcome := out }
abbrev K0 : Sre.Kept := {}
abbrev fS (a : Nat) (om : Bool) : Sre.Frame := { wait := .nextStart, pc := 5, pos := a, outermost := om }
abbrev fB (alt a : Nat) (om : Bool) : Sre.Frame := { wait := .nextBranch, pc := alt, pos := a, outermost := om, kept := { lastmark := 0, lastindex := -1 } }
abbrev fG (a : Nat) (om : Bool) (n : Int) : Sre.Frame := { wait := .giveBack, pc := 9, pos := a, outermost := om, count := n, kept := { lastmark := 0, lastindex := -1 } }
section
variable (T : Array Nat) (lim a : Nat) (om : Bool) (seen seen' : Sre.Seen) (mk : Array (Option Nat))
theorem st1 : (ST T lim a 5 a a om mk (-1) (-1) [fS a om] 1 none seen none).step = ST T lim a 7 a a om (mk.setIfInBounds 0 (some a)) 0 (-1) [fS a om] 1 none (seen.add 17) none := rfl
theorem st2 : (ST T lim a 7 a a om mk 0 (-1) [fS a om] 1 none seen none).step = ST T lim a 9 a a om mk 0 (-1) [fB 8 a om, fS a om] 2 none (seen.add 7) none := rfl
theorem st3 (n : Nat) (ha : a < lim) (hn : 1 ≤ n) (h : Sre.run RC T 13 (min 4294967295 ((lim : Int) - a).toNat) a 0 ((seen.add 24).add 13) = .ok (n, seen')) :
    (ST T lim a 9 a a om mk 0 (-1) [fB 8 a om, fS a om] 2 none seen none).step = ST T lim a 20 (a + n) (a + n) om mk 0 (-1) [fG (a + n) om n, fB 8 a om, fS a om] 3 none seen' none := by
  show (if (((1 : Nat) : Int) > (lim : Int) - a) then _ else _) = _
  rw [if_neg (by omega)]
  show (match Sre.run RC T 13 (min 4294967295 ((lim : Int) - a).toNat) a 0 ((seen.add 24).add 13) with | .error why => _ | .ok (n, seen) => _) = _
  rw [h]
  show (if n < 1 then _ else _) = _
  rw [if_neg (by omega)]
  rfl
theorem st3n (ha : a < lim) (h : Sre.run RC T 13 (min 4294967295 ((lim : Int) - a).toNat) a 0 ((seen.add 24).add 13) = .ok (0, seen')) :
    (ST T lim a 9 a a om mk 0 (-1) [fB 8 a om, fS a om] 2 none seen none).step = ST T lim a 9 a a om mk 0 (-1) [fB 8 a om, fS a om] 2 (some false) seen' none := by
  show (if (((1 : Nat) : Int) > (lim : Int) - a) then _ else _) = _
  rw [if_neg (by omega)]
  show (match Sre.run RC T 13 (min 4294967295 ((lim : Int) - a).toNat) a 0 ((seen.add 24).add 13) with | .error why => _ | .ok (n, seen) => _) = _
  rw [h]
  rfl
theorem st3e (ha : lim ≤ a) :
    (ST T lim a 9 a a om mk 0 (-1) [fB 8 a om, fS a om] 2 none seen none).step = ST T lim a 9 a a om mk 0 (-1) [fB 8 a om, fS a om] 2 (some false) (seen.add 24) none := by
  show (if (((1 : Nat) : Int) > (lim : Int) - a) then _ else _) = _
  rw [if_pos (by omega)]
  rfl
theorem st4 : (ST T lim a 9 a a om mk 0 (-1) [fB 8 a om, fS a om] 2 (some false) seen none).step = ST T lim a 23 a a om mk 0 (-1) [fB 22 a om, fS a om] 2 none seen none := rfl
theorem st5 (ha : a < lim) (h : sep (T.getD a 0) = true) : (ST T lim a 23 a a om mk 0 (-1) [fB 22 a om, fS a om] 2 none seen none).step = ST T lim a 35 (a + 1) a om mk 0 (-1) [fB 22 a om, fS a om] 2 none ((seen.add 13).add 9) none := by
  show (if a ≥ lim then _ else _) = _
  rw [if_neg (by omega)]
  show (match Sre.accepts RC 23 (T.getD a 0) (seen.add 13) with | .error why => _ | .ok (false, seen) => _ | .ok (true, seen) => _) = _
  rw [sac1 _ _ h]
  rfl
theorem st5n (ha : a < lim) (h : sep (T.getD a 0) = false) : (ST T lim a 23 a a om mk 0 (-1) [fB 22 a om, fS a om] 2 none seen none).step = ST T lim a 23 a a om mk 0 (-1) [fB 22 a om, fS a om] 2 (some false) (((seen.add 13).add 9).add 0) none := by
  show (if a ≥ lim then _ else _) = _
  rw [if_neg (by omega)]
  show (match Sre.accepts RC 23 (T.getD a 0) (seen.add 13) with | .error why => _ | .ok (false, seen) => _ | .ok (true, seen) => _) = _
  rw [sac0 _ _ h]
  rfl
theorem st5e (ha : lim ≤ a) : (ST T lim a 23 a a om mk 0 (-1) [fB 22 a om, fS a om] 2 none seen none).step = ST T lim a 23 a a om mk 0 (-1) [fB 22 a om, fS a om] 2 (some false) (seen.add 13) none := by
  show (if a ≥ lim then _ else _) = _
  rw [if_pos (by omega)]
  rfl
theorem st6n : (ST T lim a 23 a a om mk 0 (-1) [fB 22 a om, fS a om] 2 (some false) seen none).step = ST T lim a 22 a a om mk 0 (-1) [fS a om] 1 (some false) seen none := rfl
theorem st7n (ha : a < lim) : (ST T lim a 22 a a om mk 0 (-1) [fS a om] 1 (some false) seen none).step = ST T lim (a + 1) 5 (a + 1) (a + 1) false mk (-1) (-1) [fS (a + 1) false] 1 none seen none := by
  show (if a < lim then _ else _) = _
  rw [if_pos ha]
  rfl
theorem st7e (ha : lim ≤ a) : (ST T lim a 22 a a om mk 0 (-1) [fS a om] 1 (some false) seen none).step = ST T lim a 5 a a om mk 0 (-1) [] 0 (some false) seen none := by
  show (if a < lim then _ else _) = _
  rw [if_neg (by omega)]
  rfl
theorem st8e (pc h : Nat) (lm li : Int) (w : Nat) : (ST T lim a pc a h om mk lm li [] w (some false) seen none).step = ST T lim a pc a h om mk lm li [] w (some false) seen (some .failed) := rfl
theorem st6 (e h : Nat) (fr : List Sre.Frame) (w : Nat) : (ST T lim a 35 e h om mk 0 (-1) fr w none seen none).step = ST T lim a 38 e h om mk 0 (-1) fr w none (seen.add 15) none := rfl
theorem st6d (e h : Nat) (fr : List Sre.Frame) (w : Nat) : (ST T lim a 20 e h om mk 0 (-1) fr w none seen none).step = ST T lim a 38 e h om mk 0 (-1) fr w none (seen.add 15) none := rfl
theorem st7 (e h : Nat) (fr : List Sre.Frame) (w : Nat) : (ST T lim a 38 e h om mk 0 (-1) fr w none seen none).step = ST T lim a 40 e h om (mk.setIfInBounds 1 (some e)) 1 1 fr w none (seen.add 17) none := by
  show Sre.M.mark _ 1 = _
  unfold Sre.M.mark ST
  congr 1
theorem st8 (e h : Nat) (fr : List Sre.Frame) (w : Nat) : (ST T lim a 40 e h om mk 1 1 fr w none seen none).step = ST T lim a 40 e e om mk 1 1 fr w (some true) (seen.add 1) none := by
  cases om <;> rfl
theorem st9 (e : Nat) (n : Int) (fr : List Sre.Frame) (w : Nat) : (ST T lim a 40 e e om mk 1 1 (fG e om n :: fr) (w + 1) (some true) seen none).step = ST T lim a 9 e e om mk 1 1 fr w (some true) seen none := rfl
theorem st10 (pc alt e f : Nat) (fr : List Sre.Frame) (w : Nat) : (ST T lim a pc f e om mk 1 1 (fB alt a om :: fr) (w + 1) (some true) seen none).step = ST T lim a alt a e om mk 1 1 fr w (some true) seen none := rfl
theorem st11 (pc e : Nat) : (ST T lim a pc a e om mk 1 1 [fS a om] 1 (some true) seen none).step = ST T lim a 5 a e om mk 1 1 [] 0 (some true) seen none := rfl
theorem st12 (pc e : Nat) : (ST T lim a pc a e om mk 1 1 [] 0 (some true) seen none).step = ST T lim a pc a e om mk 1 1 [] 0 (some true) seen (some .matched) := rfl
end
theorem rf (m : Sre.M) (n : Nat) (h : m.outcome = none) : m.runFor (n + 1) = m.step.runFor n := by
  show (if m.outcome.isSome then m else m.step.runFor n) = _
  rw [h]; rfl
theorem rf_done (m : Sre.M) (n : Nat) (h : m.outcome.isSome = true) : m.runFor n = m := by
  cases n with
  | zero => rfl
  | succ n => exact if_pos h
theorem rf_add : ∀ (k n : Nat) (m : Sre.M), m.runFor (k + n) = (m.runFor k).runFor n
  | 0, n, m => by rw [Nat.zero_add]; rfl
  | k + 1, n, m => by
    rw [show k + 1 + n = (k + n) + 1 from by omega]
    cases h : m.outcome with
    | none => rw [rf m _ h, rf m _ h, rf_add k n]
    | some o => rw [rf_done m _ (by rw [h]; rfl), rf_done m _ (by rw [h]; rfl), rf_done m _ (by rw [h]; rfl)]
/-- The machine comes to m' in at most b steps. -/
def Goes (b : Nat) (m m' : Sre.M) : Prop := ∃ k, k ≤ b ∧ m.runFor k = m'
theorem Goes.refl (m : Sre.M) : Goes 0 m m := ⟨0, Nat.le_refl _, rfl⟩
theorem Goes.step {b : Nat} {m m' : Sre.M} (h : m.outcome = none) (g : Goes b m.step m') : Goes (b + 1) m m' := by
  obtain ⟨k, h1, h2⟩ := g
  exact ⟨k + 1, by omega, by rw [rf m _ h]; exact h2⟩
theorem Goes.trans {b c : Nat} {m m' m'' : Sre.M} (g : Goes b m m') (g' : Goes c m' m'') : Goes (b + c) m m'' := by
  obtain ⟨k, h1, h2⟩ := g
  obtain ⟨j, h3, h4⟩ := g'
  exact ⟨k + j, by omega, by rw [rf_add, h2, h4]⟩
/-- What a match is asked for. -/
structure Found (m : Sre.M) (a e : Nat) : Prop where
  out : m.outcome = some .matched
  start : m.start = a
  handed : m.handed = e
  last : m.lastmark = 1
  m0 : m.marks.getD 0 none = some a
  m1 : m.marks.getD 1 none = some e
section
variable (T : Array Nat) (lim a : Nat) (om : Bool) (seen : Sre.Seen) (mk : Array (Option Nat))
theorem marks_two (a e : Nat) (hm : mk.size = 2) : ((mk.setIfInBounds 0 (some a)).setIfInBounds 1 (some e)).getD 0 none = some a ∧ ((mk.setIfInBounds 0 (some a)).setIfInBounds 1 (some e)).getD 1 none = some e := by
  constructor <;> simp [Array.getD, hm]
theorem go_dig (n : Nat) (hm : mk.size = 2) (hn : 1 ≤ n) (hl : a + n ≤ lim) (hb : n < 4294967295) (hb2 : lim < 4294967295) (hd : ∀ i, i < n → dig (T.getD (a + i) 0) = true) (he : a + n = lim ∨ dig (T.getD (a + n) 0) = false) :
    ∃ m', Goes 10 (ST T lim a 5 a a om mk (-1) (-1) [fS a om] 1 none seen none) m' ∧ Found m' a (a + n) := by
  obtain ⟨s', hr⟩ := run_k T n (min 4294967295 ((lim : Int) - a).toNat) a 0 ((((seen.add 17).add 7).add 24).add 13) hd (by omega) (he.imp (fun q => by omega) id)
  rw [Nat.zero_add] at hr
  obtain ⟨q0, q1⟩ := marks_two mk a (a + n) hm
  refine ⟨?m, ?g, ?f⟩
  case g =>
    refine .step rfl ?_
    rw [st1]; refine .step rfl ?_
    rw [st2]; refine .step rfl ?_
    rw [st3 _ _ _ _ _ _ _ n (by omega) hn hr]; refine .step rfl ?_
    rw [st6d]; refine .step rfl ?_
    rw [st7]; refine .step rfl ?_
    rw [st8]; refine .step rfl ?_
    rw [st9 _ _ _ _ _ _ _ _ _ 2]; refine .step rfl ?_
    rw [st10 _ _ _ _ _ _ _ _ _ _ _ 1]; refine .step rfl ?_
    rw [st11]; refine .step rfl ?_
    rw [st12]; exact .refl _
  case f => exact ⟨rfl, rfl, rfl, rfl, q0, q1⟩
theorem go_sep (hm : mk.size = 2) (hl : a < lim) (hs : sep (T.getD a 0) = true) (hd : dig (T.getD a 0) = false) :
    ∃ m', Goes 11 (ST T lim a 5 a a om mk (-1) (-1) [fS a om] 1 none seen none) m' ∧ Found m' a (a + 1) := by
  obtain ⟨s', hr⟩ := run_k T 0 (min 4294967295 ((lim : Int) - a).toNat) a 0 ((((seen.add 17).add 7).add 24).add 13) (fun i hi => absurd hi (by omega)) (by omega) (.inr hd)
  obtain ⟨q0, q1⟩ := marks_two mk a (a + 1) hm
  refine ⟨?m, ?g, ?f⟩
  case g =>
    refine .step rfl ?_
    rw [st1]; refine .step rfl ?_
    rw [st2]; refine .step rfl ?_
    rw [st3n _ _ _ _ _ _ _ hl hr]; refine .step rfl ?_
    rw [st4]; refine .step rfl ?_
    rw [st5 _ _ _ _ _ _ hl hs]; refine .step rfl ?_
    rw [st6]; refine .step rfl ?_
    rw [st7]; refine .step rfl ?_
    rw [st8]; refine .step rfl ?_
    rw [st10 _ _ _ _ _ _ _ _ _ _ _ 1]; refine .step rfl ?_
    rw [st11]; refine .step rfl ?_
    rw [st12]; exact .refl _
  case f => exact ⟨rfl, rfl, rfl, rfl, q0, q1⟩
/-- A character that is neither: the next place is tried. -/
theorem go_by (hl : a < lim) (hs : sep (T.getD a 0) = false) (hd : dig (T.getD a 0) = false) :
    ∃ seen', Goes 7 (ST T lim a 5 a a om mk (-1) (-1) [fS a om] 1 none seen none) (ST T lim (a + 1) 5 (a + 1) (a + 1) false (mk.setIfInBounds 0 (some a)) (-1) (-1) [fS (a + 1) false] 1 none seen' none) := by
  obtain ⟨s', hr⟩ := run_k T 0 (min 4294967295 ((lim : Int) - a).toNat) a 0 ((((seen.add 17).add 7).add 24).add 13) (fun i hi => absurd hi (by omega)) (by omega) (.inr hd)
  refine ⟨?m, ?g⟩
  case g =>
  refine .step rfl ?_
  rw [st1]; refine .step rfl ?_
  rw [st2]; refine .step rfl ?_
  rw [st3n _ _ _ _ _ _ _ hl hr]; refine .step rfl ?_
  rw [st4]; refine .step rfl ?_
  rw [st5n _ _ _ _ _ _ hl hs]; refine .step rfl ?_
  rw [st6n]; refine .step rfl ?_
  rw [st7n _ _ _ _ _ _ hl]; exact .refl _
theorem go_end (hl : lim ≤ a) : ∃ m', Goes 8 (ST T lim a 5 a a om mk (-1) (-1) [fS a om] 1 none seen none) m' ∧ m'.outcome = some .failed := by
  refine ⟨?m, ?g, ?f⟩
  case g =>
    refine .step rfl ?_
    rw [st1]; refine .step rfl ?_
    rw [st2]; refine .step rfl ?_
    rw [st3e _ _ _ _ _ _ hl]; refine .step rfl ?_
    rw [st4]; refine .step rfl ?_
    rw [st5e _ _ _ _ _ _ hl]; refine .step rfl ?_
    rw [st6n]; refine .step rfl ?_
    rw [st7e _ _ _ _ _ _ hl]; refine .step rfl ?_
    rw [st8e]; exact .refl _
  case f => rfl
end
end Rex
end Mine
end
theorem Mine.fresh10 : True := by
  w_top off
  trivial
section
open PySem PySem.W PyProof.Rows
namespace Mine
namespace Rex
open PySem.Builtin.Re
theorem Goes.weaken {b c : Nat} {m m' : Sre.M} (g : Goes b m m') (h : b ≤ c) : Goes c m m' := let ⟨k, h1, h2⟩ := g; ⟨k, Nat.le_trans h1 h, h2⟩
theorem drive {M : Model} {A : Around} {E : Value → Shared → Prop} {s : Shared} {Q : Sre.M → Shared → Prop} {m' : Sre.M} (ho : m'.outcome.isSome = true) (h : Q m' s) :
    ∀ (k n : Nat) (m : Sre.M), k < n → m.runFor (4 * (k + 1)) = m' → wpAny M A (reDrive n m) Q E s
  | k, 0, _, hk, _ => absurd hk (Nat.not_lt_zero _)
  | k, n + 1, m, hk, hr => by
    show wpAny M A (if (m.runFor 4).outcome.isSome then pure (m.runFor 4) else (do rule "sre.turn"; reDrive n (m.runFor 4))) Q E s
    cases hq : (m.runFor 4).outcome.isSome with
    | true =>
      rw [if_pos rfl]
      have : m.runFor 4 = m' := by rw [← hr, show 4 * (k + 1) = 4 + 4 * k from by omega, rf_add, rf_done _ _ hq]
      rw [this]; exact wpAny_pure h
    | false =>
      rw [if_neg (by decide)]
      refine wpAny_bind (wpAny_rule ?_)
      cases k with
      | zero => rw [show 4 * (0 + 1) = 4 from rfl] at hr; rw [hr, ho] at hq; cases hq
      | succ k => exact drive ho h k n _ (by omega) (by rw [← hr, show 4 * (k + 1 + 1) = 4 + 4 * (k + 1) from by omega, rf_add])
theorem rules {M : Model} {A : Around} {E : Value → Shared → Prop} {s : Shared} {Q : PUnit → Shared → Prop} {f : Nat → PUnit → Sem (ForInStep PUnit)}
    (hf : ∀ i u, wpAny M A (f i u) (fun r s' => r = ForInStep.yield PUnit.unit ∧ s' = s) E s) (h : Q ⟨⟩ s) : ∀ (l : List Nat), wpAny M A (forIn l PUnit.unit f) Q E s
  | [] => wpAny_pure h
  | i :: l => by
    rw [List.forIn_cons]
    refine wpAny_bind (wpAny_mono (hf i _) (fun r s' q => ?_) fun _ _ q => q)
    obtain ⟨rfl, rfl⟩ := q
    exact rules hf h l
theorem to_end {M : Model} {A : Around} {E : Value → Shared → Prop} {s : Shared} {Q : Option Sre.M → Shared → Prop} {m m' : Sre.M} (g : Goes 40 m m')
    (h : (m'.outcome = some .matched ∧ Q (some m') s) ∨ (m'.outcome = some .failed ∧ Q none s)) : wpAny M A (reRunToEnd m) Q E s := by
  have ho : m'.outcome.isSome = true := by rcases h with h | h <;> rw [h.1] <;> rfl
  obtain ⟨k, hk, hr⟩ := g
  have hr' : m.runFor (4 * (9 + 1)) = m' := by
    rw [show 4 * (9 + 1) = k + (40 - k) from by omega, rf_add, hr, rf_done _ _ ho]
  unfold reRunToEnd
  refine wpAny_bind (drive ho ?_ 9 _ _ (by decide) hr')
  refine wpAny_bind (rules (fun i u => ?_) ?_ _)
  · refine wpAny_ite ?_
    split
    · exact wpAny_bind (wpAny_rule (wpAny_pure ⟨rfl, rfl⟩))
    · exact wpAny_pure ⟨rfl, rfl⟩
  rcases h with ⟨h1, h2⟩ | ⟨h1, h2⟩ <;> rw [h1] <;> exact wpAny_pure h2
/-- What the search from a place comes to. -/
def Next (T : Array Nat) (st : Nat) (r : Option (Nat × Nat)) : Prop :=
  ∃ m', Goes 40 (Sre.forSearch RC T 1 st T.size false) m' ∧ match r with
    | some (a, e) => Found m' a e
    | none => m'.outcome = some .failed
theorem search_eq (T : Array Nat) (st : Nat) (h : st < T.size) :
    Sre.forSearch RC T 1 st T.size false = ST T T.size st 5 st st true #[none, none] (-1) (-1) [fS st true] 1 none (({} : Sre.Seen).add 14) none := by
  show (if (decide (st > T.size) || decide (T.size - st < 1)) = true then _ else _) = _
  rw [if_neg (by simp; omega)]
  rfl
theorem next_end (T : Array Nat) : Next T T.size none := by
  have e : Sre.forSearch RC T 1 T.size T.size false = { ST T T.size T.size 5 T.size T.size true #[none, none] (-1) (-1) [] 0 (some false) (({} : Sre.Seen).add 14) none with lastStart := 0 } := by
    show (if (decide (T.size > T.size) || decide (T.size - T.size < 1)) = true then _ else _) = _
    rw [if_pos (by simp)]
    rfl
  refine ⟨(Sre.forSearch RC T 1 T.size T.size false).step, ?_, ?_⟩
  · rw [e]; exact (Goes.step rfl (Goes.refl _)).weaken (by decide)
  · rw [e]; rfl
theorem next_dig (T : Array Nat) (a n : Nat) (hn : 1 ≤ n) (hl : a + n ≤ T.size) (hb : T.size < 4294967295) (hd : ∀ i, i < n → dig (T.getD (a + i) 0) = true) (he : a + n = T.size ∨ dig (T.getD (a + n) 0) = false) :
    Next T a (some (a, a + n)) := by
  obtain ⟨m', g, f⟩ := go_dig T T.size a true (({} : Sre.Seen).add 14) #[none, none] n rfl hn hl (by omega) hb hd he
  exact ⟨m', by rw [search_eq T a (by omega)]; exact g.weaken (by decide), f⟩
theorem next_sep (T : Array Nat) (a : Nat) (hl : a < T.size) (hs : sep (T.getD a 0) = true) (hd : dig (T.getD a 0) = false) : Next T a (some (a, a + 1)) := by
  obtain ⟨m', g, f⟩ := go_sep T T.size a true (({} : Sre.Seen).add 14) #[none, none] rfl hl hs hd
  exact ⟨m', by rw [search_eq T a (by omega)]; exact g.weaken (by decide), f⟩
theorem by_sep (T : Array Nat) (a : Nat) (hl : a + 1 < T.size) (hs : sep (T.getD a 0) = false) (hd : dig (T.getD a 0) = false) (hs' : sep (T.getD (a + 1) 0) = true) (hd' : dig (T.getD (a + 1) 0) = false) :
    Next T a (some (a + 1, a + 1 + 1)) := by
  obtain ⟨s', g⟩ := go_by T T.size a true (({} : Sre.Seen).add 14) #[none, none] (by omega) hs hd
  obtain ⟨m', g', f⟩ := go_sep T T.size (a + 1) false s' (#[none, none].setIfInBounds 0 (some a)) rfl hl hs' hd'
  exact ⟨m', by rw [search_eq T a (by omega)]; exact (g.trans g').weaken (by decide), f⟩
theorem by_end (T : Array Nat) (a : Nat) (hl : a + 1 = T.size) (hs : sep (T.getD a 0) = false) (hd : dig (T.getD a 0) = false) : Next T a none := by
  obtain ⟨s', g⟩ := go_by T T.size a true (({} : Sre.Seen).add 14) #[none, none] (by omega) hs hd
  obtain ⟨m', g', f⟩ := go_end T T.size (a + 1) false s' (#[none, none].setIfInBounds 0 (some a)) (by omega)
  exact ⟨m', by rw [search_eq T a (by omega)]; exact (g.trans g').weaken (by decide), f⟩
/-- The matches from a place on. -/
inductive Cuts (T : Array Nat) : Nat → List (Nat × Nat) → Prop
  | nil {st : Nat} (h : Next T st none) (h' : st ≤ T.size) : Cuts T st []
  | cons {st a e : Nat} {l : List (Nat × Nat)} (h : Next T st (some (a, e))) (h1 : st ≤ a) (h2 : a < e) (h3 : e ≤ T.size) (h4 : Cuts T e l) : Cuts T st ((a, e) :: l)
/-- The pieces that a split makes of them. -/
def pieces (T : Array Nat) : Nat → List (Nat × Nat) → List Str
  | st, [] => [⟨T.extract st T.size⟩]
  | st, (a, e) :: l => ⟨T.extract st a⟩ :: ⟨T.extract a e⟩ :: pieces T e l
inductive StrList : List Value → List Str → Prop
  | nil : StrList [] []
  | cons {x : Str} {t : Tok} {vs : List Value} {xs : List Str} (h : StrList vs xs) : StrList (Value.str x t :: vs) (x :: xs)
theorem StrList.snoc : ∀ {vs : List Value} {xs : List Str} {x : Str} {t : Tok}, StrList vs xs → StrList (vs ++ [Value.str x t]) (xs ++ [x])
  | _, _, _, _, .nil => .cons .nil
  | _, _, _, _, .cons h => .cons h.snoc
theorem slice {M : Model} {A : Around} {E : Value → Shared → Prop} {s : Shared} {Q : Value → Shared → Prop} (T : Array Nat) (b e : Nat) (hb : T.size ≤ sizeLine)
    (h : Q (.str ⟨T.extract b e⟩ s.toks) { s with toks := s.toks + 1 }) : wpAny M A (reSlice T 0 b e) Q E s := by
  show wpAny M A (mkStr ⟨T.extract b e⟩) Q E s
  refine wpAny_mkStr h ?_
  show (T.extract b e).size ≤ sizeLine
  rw [Array.size_extract]; omega
theorem next_wp {M : Model} {A : Around} {E : Value → Shared → Prop} {s : Shared} {Q : Option Sre.M → Shared → Prop} {t : ReTarget} {st : Nat} {r : Option (Nat × Nat)} (hc : t.code = RC) (hg : t.groups = 1) (hl : t.lim = t.text.size)
    (n : Next t.text st r) (h : match r with | some (a, e) => ∀ m, Found m a e → Q (some m) s | none => Q none s) : wpAny M A (reNextFound t st false) Q E s := by
  unfold reNextFound
  rw [hc, hg, hl]
  obtain ⟨m', g, f⟩ := n
  refine to_end g ?_
  cases r with
  | none => exact .inr ⟨f, h⟩
  | some p => exact .inl ⟨f.out, h _ f⟩
theorem group_wp {M : Model} {A : Around} {E : Value → Shared → Prop} {s : Shared} {Q : Value → Shared → Prop} {t : ReTarget} {m : Sre.M} {a e : Nat} (hk : t.kind = 0) (hb : t.text.size ≤ sizeLine) (f : Found m a e) (hae : a < e) (d : Sem Value)
    (h : Q (.str ⟨t.text.extract a e⟩ s.toks) { s with toks := s.toks + 1 }) : wpAny M A (reMachineGroup t m (0 + 1) d) Q E s := by
  unfold reMachineGroup
  rw [f.last]
  show wpAny M A (match m.marks.getD (2 * (0 + 1 - 1)) none, m.marks.getD (2 * (0 + 1 - 1) + 1) none with
    | some b, some e => if e < b then reWrongSpan else reSlice t.text t.kind b e
    | _, _ => d) Q E s
  rw [show 2 * (0 + 1 - 1) = 0 from rfl, f.m0, show 0 + 1 = 1 from rfl, f.m1]
  show wpAny M A (if e < a then reWrongSpan else reSlice t.text t.kind a e) Q E s
  rw [if_neg (by omega), hk]
  exact slice _ _ _ hb h
end Rex
end Mine
end
theorem Mine.fresh11 : True := by
  w_top off
  trivial
section
open PySem PySem.W PyProof.Rows
namespace Mine
namespace Rex
open PySem.Builtin PySem.Builtin.Re
def heads (T : Array Nat) : Nat → List (Nat × Nat) → List Str
  | _, [] => []
  | st, (a, e) :: l => ⟨T.extract st a⟩ :: ⟨T.extract a e⟩ :: heads T e l
def endOf : Nat → List (Nat × Nat) → Nat
  | st, [] => st
  | _, (_, e) :: l => endOf e l
theorem pieces_eq (T : Array Nat) : ∀ (l : List (Nat × Nat)) (st : Nat), pieces T st l = heads T st l ++ [⟨T.extract (endOf st l) T.size⟩]
  | [], _ => rfl
  | (a, e) :: l, st => by show _ :: _ :: pieces T e l = _; rw [pieces_eq T l e]; rfl
theorem StrList.length : ∀ {vs : List Value} {xs : List Str}, StrList vs xs → vs.length = xs.length
  | _, _, .nil => rfl
  | _, _, .cons h => by rw [List.length_cons, List.length_cons, h.length]
abbrev Stt := Array Value × Nat × Nat × Bool × Int × Bool
def body (t : ReTarget) (_ : Nat) (z : Stt) : Sem (ForInStep Stt) :=
  if (!z.snd.snd.snd.snd.snd) = true then do
    let r ← if ((0 : Int) != 0 && decide (z.snd.snd.snd.snd.fst ≥ (0 : Int))) = true then pure none else reNextFound t z.snd.fst z.snd.snd.snd.fst
    match r with
    | none => pure (ForInStep.yield (z.fst, z.snd.fst, z.snd.snd.fst, z.snd.snd.snd.fst, z.snd.snd.snd.snd.fst, true))
    | some m => do
      let v ← reSlice t.text t.kind z.snd.snd.fst m.start
      let o ← forIn (List.range t.groups) (z.fst.push v) fun g z => do
        let v ← reMachineGroup t m (g + 1) (pure Value.none)
        pure (ForInStep.yield (z.push v))
      pure (ForInStep.yield (o, m.handed, m.handed, m.handed == m.start, z.snd.snd.snd.snd.fst + 1, z.snd.snd.snd.snd.snd))
  else pure (ForInStep.yield (z.fst, z.snd.fst, z.snd.snd.fst, z.snd.snd.snd.fst, z.snd.snd.snd.snd.fst, z.snd.snd.snd.snd.snd))
section
variable {M : Model} {A : Around} {E : Value → Shared → Prop} {t : ReTarget}
theorem loop_over {s : Shared} {Q : Stt → Shared → Prop} {out : Array Value} {a b : Nat} {mu : Bool} {n : Int} (h : Q (out, a, b, mu, n, true) s) : ∀ (l : List Nat), wpAny M A (forIn l (out, a, b, mu, n, true) (body t)) Q E s
  | [] => wpAny_pure h
  | i :: l => by
    rw [List.forIn_cons]
    exact wpAny_bind (wpAny_pure (loop_over h l))
theorem loop (hc : t.code = RC) (hg : t.groups = 1) (hl : t.lim = t.text.size) (hk : t.kind = 0) (hb : t.text.size ≤ sizeLine) :
    ∀ (cut : List (Nat × Nat)) (l : List Nat) (st : Nat) (out : Array Value) (n : Int) (s : Shared) (Q : Stt → Shared → Prop), Cuts t.text st cut → cut.length + 1 ≤ l.length →
      (∀ vs tk n', StrList vs (heads t.text st cut) → Q (out ++ vs.toArray, endOf st cut, endOf st cut, false, n', true) { s with toks := tk }) →
      wpAny M A (forIn l (out, st, st, false, n, false) (body t)) Q E s
  | [], [], _, _, _, _, _, _, h, _ => absurd h (by simp)
  | [], i :: l, st, out, n, s, Q, c, _, hQ => by
    rw [List.forIn_cons]
    obtain ⟨nx, _⟩ : Next t.text st none ∧ st ≤ t.text.size := by cases c with | nil h h' => exact ⟨h, h'⟩
    refine wpAny_bind ?_
    show wpAny M A (reNextFound t st false >>= _) _ E s
    refine wpAny_bind (next_wp hc hg hl nx (wpAny_pure ?_))
    exact loop_over (by simpa [endOf] using hQ [] s.toks n .nil) l
  | (a, e) :: cut, [], _, _, _, _, _, _, h, _ => absurd h (by simp)
  | (a, e) :: cut, i :: l, st, out, n, s, Q, c, h, hQ => by
    rw [List.forIn_cons]
    obtain ⟨nx, h1, h2, h3, c'⟩ : Next t.text st (some (a, e)) ∧ st ≤ a ∧ a < e ∧ e ≤ t.text.size ∧ Cuts t.text e cut := by cases c with | cons h h1 h2 h3 h4 => exact ⟨h, h1, h2, h3, h4⟩
    refine wpAny_bind ?_
    show wpAny M A (reNextFound t st false >>= _) _ E s
    refine wpAny_bind (next_wp hc hg hl nx fun m f => ?_)
    show wpAny M A (reSlice t.text t.kind st m.start >>= _) _ E s
    rw [hk, f.start, f.handed, hg]
    refine wpAny_bind (slice _ _ _ hb ?_)
    show wpAny M A (forIn [0] (out.push _) _ >>= _) _ E _
    rw [List.forIn_cons]
    refine wpAny_bind (wpAny_bind (wpAny_bind (group_wp hk hb f h2 _ (wpAny_pure (wpAny_pure (wpAny_pure ?_))))))
    rw [show (e == a) = false from by simp; omega]
    refine loop hc hg hl hk hb cut l e _ _ _ Q c' (by simp at h ⊢; omega) fun vs tk n' hv => ?_
    have := hQ (Value.str ⟨t.text.extract st a⟩ s.toks :: Value.str ⟨t.text.extract a e⟩ (s.toks + 1) :: vs) tk n' (.cons (.cons hv))
    simpa [endOf] using this
end
theorem split_wp {prog : Program} {w : World} {A : Around} {E : Value → Shared → Prop} {s : Shared} {Q : PySem.Fin → Shared → Prop} {p c : Addr} {x : Str} {tk : Tok} {op oc : Obj} {fs items : Array Value} {k : Nat} {cut : List (Nat × Nat)}
   (hp : s.heap.get? p = some op) (hpd : op.data = .fields fs) (h6 : reRawNat (fs.getD 6 .none) = 0) (h5 : fs.getD 5 .none = .ref c) (h2 : reRawNat (fs.getD 2 .none) = 1)
   (ho : s.heap.get? c = some oc) (hod : oc.data = .seq items k) (hi : (items.map reRawOf).map Int.toNat = RC) (hb : x.length ≤ sizeLine) (hlen : (pieces x.cps 0 cut).length ≤ sizeLine)
   (hcut : Cuts x.cps 0 cut) (hn : cut.length + 1 ≤ 2 * x.cps.size + 3)
   (hQ : ∀ vs tk', StrList vs (pieces x.cps 0 cut) → Q (.done (.ret (.ref s.heap.objs.size))) { s with heap := s.heap.push { cls := .type "list", data := .seq vs.toArray 0 }, toks := tk' }) :
   wpAny (model prog w) A (Builtin.«re.Pattern.split» ⟨[.ref p, .str x tk], []⟩) Q E s := by
  unfold Builtin.«re.Pattern.split»
  dsimp only
  refine wpAny_bind (wpAny_of_eq (a := [some (.str x tk), none]) (by rfl) ?_)
  refine wpAny_bind (wpAny_pure ?_)
  refine wpAny_bind (m := reWholeTarget (.ref p) (.str x tk)) ?_
  unfold reWholeTarget
  refine wpAny_bind (wpAny_fieldsOf hp hpd ?_)
  refine wpAny_bind (wpAny_of_eq (a := (x.cps, 0)) (by rfl) ?_)
  dsimp only
  rw [h6]
  refine wpAny_bind (wpAny_pure ?_)
  rw [h5]
  refine wpAny_bind (m := reRawItems (.ref c)) ?_
  unfold reRawItems
  refine wpAny_bind (wpAny_seqItems ho hod (wpAny_pure ?_))
  refine wpAny_pure ?_
  refine wpAny_bind (m := forIn (List.range (reMostMatches _)) ((#[], 0, 0, false, 0, false) : Stt) (body _)) ?_
  refine loop (t := { pattern := .ref p, string := .str x tk, code := (items.map reRawOf).map Int.toNat, text := x.cps, kind := 0, groups := reRawNat (fs.getD 2 .none), pos := 0, lim := x.cps.size }) hi h2 rfl rfl hb cut _ 0 #[] 0 s _ hcut (by rw [List.length_range]; exact hn) fun vs tk' n' hv => ?_
  show wpAny _ _ (reSlice x.cps 0 (endOf 0 cut) x.cps.size >>= _) _ _ _
  refine wpAny_bind (slice _ _ _ hb ?_)
  have hv' := hv.snoc (x := ⟨x.cps.extract (endOf 0 cut) x.cps.size⟩) (t := tk')
  rw [← pieces_eq] at hv'
  have hsz : (#[] ++ vs.toArray).push (Value.str ⟨x.cps.extract (endOf 0 cut) x.cps.size⟩ tk') = (vs ++ [Value.str ⟨x.cps.extract (endOf 0 cut) x.cps.size⟩ tk']).toArray := by simp
  rw [hsz]
  refine wpAny_bind (wpAny_newList (wpAny_pure (hQ _ _ hv')) ?_)
  have hl : (vs ++ [Value.str ⟨x.cps.extract (endOf 0 cut) x.cps.size⟩ tk']).length = (pieces x.cps 0 cut).length := hv'.length
  rw [show ((vs ++ [Value.str ⟨x.cps.extract (endOf 0 cut) x.cps.size⟩ tk']).toArray.toList) = vs ++ [Value.str ⟨x.cps.extract (endOf 0 cut) x.cps.size⟩ tk'] from by simp, hl]
  exact hlen
end Rex
end Mine
end
theorem Mine.fresh12 : True := by
  w_top off
  trivial
section
open PySem PySem.W PyProof.Rows
set_option maxRecDepth 100000
set_option maxHeartbeats 8000000
namespace Mine
theorem slot_pat_split : Slot "re.Pattern" "split" "re.Pattern.split" :=
  .of (owner := "re.Pattern") (n := "split") (by rw [typeLookup_type, builtinLookup_eq_fast]; kernel_rfl) (by decide +kernel) (by decide +kernel) (by decide +kernel)
    (by first | exact .inl (by decide +kernel) | exact .inr (by decide +kernel)) (by rw [isSubtype_type]; kernel_rfl)
theorem entry_pat_split : entryFor table "re.Pattern.split" = some Builtin.«re.Pattern.split» := entryFor_of_tree (by kernel_rfl)
theorem plainAttrs_pat : PlainAttrs "re.Pattern" :=
  ⟨⟨"object.__getattribute__", by rw [typeLookup_type, builtinLookup_eq_fast]; kernel_rfl, by decide +kernel⟩, by rw [typeLookup_type, builtinLookup_eq_fast]; kernel_rfl⟩
theorem type_pat_split : typeOf (.builtin "re.Pattern.split") = pure (.type "method_descriptor") := by show builtinType _ = _; rw [builtinType_eq_fast]; kernel_rfl
theorem owner_pat : Manifest.owners.lookup (String.ofList ['n', 'r', 'e', 't', 't', 'a', 'P', '.', 'e', 'r'].reverse) = some Manifest.sig_re_Pattern := by kernel_rfl
theorem args_pat_split (a b : Value) : argsOk "re.Pattern.split" ⟨[a, b], []⟩ := by
  unfold argsOk; rw [signature?_of (id := "re.Pattern.split") (n := ['t', 'i', 'l', 'p', 's']) (o := ['n', 'r', 'e', 't', 't', 'a', 'P', '.', 'e', 'r']) (by kernel_rfl) owner_pat]; kernel_rfl
theorem getMethod_split {M : Model} {A : Around} {E : Value → Shared → Prop} {s : Shared} {p : Addr} {o : Obj} {pl : Sem Bool} {Q : Value × List Value → Shared → Prop} (ho : s.heap.get? p = some o) (hc : o.cls = .type "re.Pattern") (hd : o.dict = none)
    (h : Q (.builtin "re.Pattern.split", [.ref p]) s) : wpAny M A (getMethod (.ref p) (Str.ofString "split") pl) Q E s :=
  getMethod_builtin ⟨o, ho, hc⟩ plainAttrs_pat slot_pat_split type_pat_split (fun a e => by cases e; exact ⟨o, ho, hd⟩) h
open Rex PySem.Builtin PySem.Builtin.Re in
theorem call_split {prog : Program} {w : World} {A : Around} {E : Value → Shared → Prop} {s : Shared} {Q : Value → Shared → Prop} {p c : Addr} {x : Str} {tk : Tok} {op oc : Obj} {fs items : Array Value} {k : Nat} {cut : List (Nat × Nat)}
   (hp : s.heap.get? p = some op) (hcl : op.cls = .type "re.Pattern") (hpd : op.data = .fields fs) (h6 : reRawNat (fs.getD 6 .none) = 0) (h5 : fs.getD 5 .none = .ref c) (h2 : reRawNat (fs.getD 2 .none) = 1)
   (ho : s.heap.get? c = some oc) (hod : oc.data = .seq items k) (hi : (items.map reRawOf).map Int.toNat = RC) (hb : x.length ≤ sizeLine) (hlen : (pieces x.cps 0 cut).length ≤ sizeLine)
   (hcut : Cuts x.cps 0 cut) (hn : cut.length + 1 ≤ 2 * x.cps.size + 3)
   (hQ : ∀ vs tk', StrList vs (pieces x.cps 0 cut) → Q (.ref s.heap.objs.size) { s with heap := s.heap.push { cls := .type "list", data := .seq vs.toArray 0 }, toks := tk' }) :
   wpAny (model prog w) A (call (.builtin "re.Pattern.split") [.ref p, .str x tk]) Q E s := by
  refine wpAny_call (codeAny_call_builtin slot_pat_split.plain entry_pat_split (slot_pat_split.check _ _ _ _ _ _ _ _ ⟨op, hp, hcl⟩ (args_pat_split _ _) ?_))
  exact split_wp hp hpd h6 h5 h2 ho hod hi hb hlen hcut hn hQ
end Mine
end
theorem Mine.fresh13 : True := by
  w_top off
  trivial
section
local macro_rules | `(tactic| omega) => `(tactic| omega (config := {}))
open PySem PySem.W PyProof.Rows PySem.Calls
namespace Mine
section
variable {prog : Program} {w : World} {A : Around} {R : Result → Shared → Prop} {s : Shared} {h₀ : Heap} {env : Env} {x : Str} {px : Pos} {body : List Stmt} {lst it : Addr} {items : Array Value} {m : Str → Option Value} {led : List (Addr × Obj)}
theorem fr_but {h h' : Heap} {L b : Addr} {m : Str → Option Value} (F : Fr h₀ L h m) (hs : Heap.SameBut b h h') (hb : h₀.get? b = none) (hL : L ≠ b) : Fr h₀ L h' m :=
  ⟨F.ns.sameBut hs hL, fun c o e => (hs.2 c (fun q => by rw [q, hb] at e; cases e)).trans (F.keep c o e), F.above⟩
theorem news_but {h h' : Heap} {L b : Addr} {l : List (Addr × Obj)} (N : News h₀ L h l) (hs : Heap.SameBut b h h') (hb : ∀ p ∈ l, p.1 ≠ b) : News h₀ L h' l :=
  fun p hp => ⟨(hs.2 p.1 (hb p hp)).trans (N p hp).1, (N p hp).2⟩
theorem fr_ext {h h' : Heap} {L b : Addr} {m : Str → Option Value} (F : Fr h₀ L h m) (hs : Heap.ExtBut b h h') (hb : h₀.get? b = none) (hL : L ≠ b) : Fr h₀ L h' m :=
  ⟨F.ns.extBut hs hL, fun c o e => hs c o (fun q => by rw [q, hb] at e; cases e) (F.keep c o e), F.above⟩
theorem news_ext {h h' : Heap} {L b : Addr} {l : List (Addr × Obj)} (N : News h₀ L h l) (hs : Heap.ExtBut b h h') (hb : ∀ p ∈ l, p.1 ≠ b) : News h₀ L h' l :=
  fun p hp => ⟨hs p.1 p.2 (hb p hp) (N p hp).1, (N p hp).2⟩
/-- The end of one turn. -/
def TurnEnd (h₀ : Heap) (L : Addr) (s : Shared) (I : (Str → Option Value) → List (Addr × Obj) → Prop) (adr : List Addr) (own : List (Addr × Obj)) (s' : Shared) : Prop :=
  ∃ m₂ led₂ h₂ tk₂, s' = { s with heap := h₂, toks := tk₂ } ∧ Fr h₀ L h₂ m₂ ∧ News h₀ L h₂ (led₂ ++ own) ∧ led₂.map (·.1) = adr ∧ I m₂ led₂
theorem listLoopH (hA : A.handled = none) (hx : env.kindOf x = some .local) (hp : (env.scope.kind == .class || (env.scope.kind == .module && env.locals != env.globals)) = false)
    (F : Fr h₀ env.locals s.heap m) (N : News h₀ env.locals s.heap led) (hl : s.heap.IsList lst items) (hit : s.heap.IsListIter it lst 0) (n1 : h₀.get? lst = none) (n2 : h₀.get? it = none) (n3 : env.locals ≠ lst) (n4 : env.locals ≠ it) (n5 : lst ≠ it)
    (n6 : ∀ p ∈ led, p.1 ≠ it)
    (I : Nat → (Str → Option Value) → List (Addr × Obj) → Prop) (h0 : I 0 m led)
    (step : ∀ i v m₁ led₁ h tk olst oit, items[i]? = some v → I i m₁ led₁ → led₁.map (·.1) = led.map (·.1) → Fr h₀ env.locals h (fun y => if y = x then some v else m₁ y) → News h₀ env.locals h (led₁ ++ [(lst, olst), (it, oit)]) →
      wpH (model prog w) A (execs body env) (fun f s' => NextH f (TurnEnd h₀ env.locals s (I (i + 1)) (led.map (·.1)) [(lst, olst), (it, oit)] s')) (fun _ _ => False) { s with heap := h, toks := tk })
    (done : ∀ m' led' h' tk', I items.size m' led' → led'.map (·.1) = led.map (·.1) → Fr h₀ env.locals h' m' → News h₀ env.locals h' led' → R (.ok .next) { s with heap := h', toks := tk' }) :
    codeH (model prog w) A (.forLoop (.Name x px) (.ref it) body [] env) R s := by
  refine codeH.forLoop
    (fun k s' => ∃ h' tk m' led' i, s' = { s with heap := h', toks := tk } ∧ h'.IsListIter it lst i ∧ h'.IsList lst items ∧ Fr h₀ env.locals h' m' ∧ News h₀ env.locals h' led' ∧ led'.map (·.1) = led.map (·.1) ∧ I i m' led' ∧ i ≤ items.size ∧ k = items.size + 1 - i)
    ?_ (items.size + 1) ⟨s.heap, s.toks, m, led, 0, rfl, hit, hl, F, N, rfl, h0, Nat.zero_le _, rfl⟩
  rintro k s' ⟨h', tk, m', led', i, rfl, hit', hl', F', N', ha, hI, hi, rfl⟩
  have ne_it : ∀ l' : List (Addr × Obj), l'.map (·.1) = led.map (·.1) → ∀ p ∈ l', p.1 ≠ it := fun l' e p hp => by
    have : p.1 ∈ led.map (·.1) := e ▸ List.mem_map_of_mem hp
    obtain ⟨q, hq, e'⟩ := List.mem_map.mp this
    rw [← e']; exact n6 q hq
  cases hv : items[i]? with
  | none =>
    have hsz : i = items.size := Nat.le_antisymm hi (by simpa using hv)
    refine wpAny_pyNext_list_end hA hit' hl' hv fun h₁ hs₁ => wpH.up (wpAny_execs_nil ?_)
    exact done m' led' h₁ tk (hsz ▸ hI) ha (fr_ext F' hs₁ n2 n4) (news_ext N' hs₁ (ne_it _ ha))
  | some v =>
    have hlt : i < items.size := (Array.getElem?_eq_some_iff.mp hv).1
    refine wpAny_pyNext_list_item hit' hl' hv fun h₁ hit₁ hs₁ => ?_
    have F₁ := fr_but F' hs₁ n2 n4
    have N₁ := news_but N' hs₁ (ne_it _ ha)
    have hl₁ : h₁.IsList lst items := by obtain ⟨o, e, r⟩ := hl'; exact ⟨o, (hs₁.2 lst n5).trans e, r⟩
    refine wpAny_assign_Name (wpAny_storeName_local hx F₁.ns (fun h₂ hn₂ hs₂ => ?_) hp)
    have F₂ := F₁.set hn₂ hs₂
    have N₂ := N₁.set hs₂
    obtain ⟨olst, e1, c1⟩ := hl₁
    obtain ⟨oit, e2, c2⟩ := hit₁
    have e1' := (hs₂.2 lst (Ne.symm n3)).trans e1
    have e2' := (hs₂.2 it (Ne.symm n4)).trans e2
    have N₃ : News h₀ env.locals h₂ (led' ++ [(lst, olst), (it, oit)]) := fun p hp => by
      rcases List.mem_append.mp hp with hp | hp
      · exact N₂ p hp
      · rcases List.mem_cons.mp hp with rfl | hp
        · exact ⟨e1', Ne.symm n3, n1⟩
        · obtain rfl := List.mem_singleton.mp hp
          exact ⟨e2', Ne.symm n4, n2⟩
    refine (step i v m' led' h₂ (tk + 1) olst oit hv hI ha F₂ N₃).mono (fun f s₃ q => ?_) fun _ _ q => q
    obtain ⟨rfl, m₂, led₂, h₃, tk₃, rfl, F₃, N₄, ha₂, hI₂⟩ := q
    refine ⟨items.size + 1 - (i + 1), by omega, h₃, tk₃, m₂, led₂, i + 1, rfl, ?_, ?_, F₃, fun p hp => N₄ p (List.mem_append_left _ hp), ha₂, hI₂, hlt, rfl⟩
    · exact ⟨oit, (N₄ (it, oit) (by simp)).1, c2⟩
    · exact ⟨olst, (N₄ (lst, olst) (by simp)).1, c1⟩
end
end Mine
end
theorem Mine.fresh14 : True := by
  w_top off
  trivial
section
open PySem PySem.W PyProof.Rows PySem.Calls PySem.NumText
set_option maxRecDepth 100000
namespace Mine
open PySem.Sem (wp)
/-- wpAny for the contexts of a kind. -/
def wpK {α : Type} (K : Ctx → Prop) (M : Model) (A : Around) (t : Sem α) (Q : α → Shared → Prop) (E : Value → Shared → Prop) (s : Shared) : Prop :=
  ∀ Γ p, Γ.In A → K Γ → wp M Γ t (fun a _ s' => Q a s') (fun e _ s' => E e s') p s
def codeK (K : Ctx → Prop) (M : Model) (A : Around) (c : Code) (R : Result → Shared → Prop) (s : Shared) : Prop :=
  ∀ Γ p, Γ.code = c → Γ.Below A → K Γ → wpCode M Γ R p s
section
variable {α β : Type} {K K' : Ctx → Prop} {M : Model} {A : Around} {E : Value → Shared → Prop} {s : Shared}
theorem wpK.up {t : Sem α} {Q : α → Shared → Prop} (h : wpAny M A t Q E s) : wpK K M A t Q E s := fun Γ p a _ => h Γ p a
theorem wpK.mono {t : Sem α} {Q Q' : α → Shared → Prop} {E' : Value → Shared → Prop} (h : wpK K M A t Q E s)
    (hQ : ∀ a s, Q a s → Q' a s) (hE : ∀ e s, E e s → E' e s) : wpK K M A t Q' E' s :=
  fun Γ p a b => Sem.wp_mono M Γ t (fun x _ s => hQ x s) (fun e _ s => hE e s) p s (h Γ p a b)
theorem wpK.bind {m : Sem α} {f : α → Sem β} {Q : β → Shared → Prop} (h : wpK K M A m (fun a s' => wpK K M A (f a) Q E s') E s) :
    wpK K M A (m >>= f) Q E s := fun Γ p a b => by
  rw [Sem.wp_bind']
  exact Sem.wp_mono M Γ m (fun x p' s' h' => h' Γ p' a b) (fun _ _ _ h' => h') p s (h Γ p a b)
theorem wpK.first {m : Sem α} {f : α → Sem β} {Q : β → Shared → Prop} (h : wpAny M A m (fun a s' => wpK K M A (f a) Q E s') E s) :
    wpK K M A (m >>= f) Q E s := wpK.bind (wpK.up h)
theorem wpK.holding {vs : List Value} {m : Sem α} {Q : α → Shared → Prop} (h : wpK K M A m Q E s) : wpK K M A (PySem.holding vs m) Q E s :=
  fun Γ p a b => by rw [Sem.wp_holding]; exact h Γ p a b
theorem wpK.call {f : Value} {pos : List Value} {kw : List (Str × Value)} {Q : Value → Shared → Prop} (hK : ∀ Γ p, K Γ → K' (Γ.enter (.call f ⟨pos, kw⟩) none p))
    (hc : codeK K' M A (.call f ⟨pos, kw⟩) (fun r s' => match r with | .ok (.ret v) => Q v s' | .ok _ => False | .error e => E e s') s) :
    wpK K M A (PySem.call f pos kw) Q E s :=
  fun Γ p a b => by
    show wp M Γ (runValue _) _ _ p s
    rw [Sem.wp_runValue]
    exact hc _ p rfl (a.enter _ none p (by intro x; cases x)) (hK Γ p b)
theorem codeK.of_tree {c : Code} {R : Result → Shared → Prop} (hK : ∀ Γ c', K Γ → Γ.code = c → K' (Γ.goto c'))
    (h : wpK (fun Γ => K Γ ∧ Γ.code = c) M (A.under c) (M.den c) (fun fin s' => match fin with | .done f => R (.ok f) s' | .again c' => c'.quiet = true ∧ codeK K' M A c' R s')
      (fun e s' => R (.error e) s') s) : codeK K M A c R s := fun Γ p hc a b => by
  rw [wpCode_iff_wp, hc]
  refine Sem.wp_mono M Γ _ (fun fin p' s' h' => ?_) (fun _ _ _ h' => h') p s (h Γ p (hc ▸ a.in) ⟨b, hc⟩)
  cases fin with
  | done f => exact h'
  | again c' => exact ⟨h'.1, h'.2 (Γ.goto c') p' rfl (a.goto c') (hK Γ c' b hc)⟩
end
theorem codeK.builtin {prog : Program} {w : World} {A : Around} {K : Ctx → Prop} {R : Result → Shared → Prop} {s : Shared} {id : String} {args : Args} {b : Builtin} (hb : entryFor table id = some b)
    (h : wpK (fun Γ => K Γ ∧ Γ.code = .builtin id args) (model prog w) (A.under (.builtin id args)) (b args) (fun fin s' => match fin with | .done f => R (.ok f) s' | .again _ => False) (fun e s' => R (.error e) s') s) :
    codeK K (model prog w) A (.builtin id args) R s := by
  refine codeK.of_tree (K' := fun _ => True) (fun _ _ _ _ => trivial) ?_
  show wpK _ _ _ (match entryFor table id with | some b => b args | none => unsupported ((withoutEnding? id "#data").getD id)) _ _ s
  rw [hb]
  refine h.mono (fun fin s' q => ?_) fun _ _ q => q
  cases fin with
  | done f => exact q
  | again c => exact q.elim
def NoMark (Γ : Ctx) : Prop := pythonCodeMadeTheCall ["int.__new__"] (Γ.code :: Γ.below.map (·.1)) = false
theorem mark_none {M : Model} {A : Around} {E : Value → Shared → Prop} {s : Shared} {e : Value} {Q : Unit → Shared → Prop} (h : Q () s) : wpK NoMark M A (markTheRefusal ["int.__new__"] e) Q E s := fun Γ p a b => by
  unfold markTheRefusal
  show wp M Γ (if pythonCodeMadeTheCall ["int.__new__"] (((Γ.code, p) :: Γ.below).map (·.1)) = true then _ else _) _ _ p s
  rw [show pythonCodeMadeTheCall ["int.__new__"] (((Γ.code, p) :: Γ.below).map (·.1)) = false from b]
  exact h
end Mine
end
theorem Mine.fresh15 : True := by
  w_top off
  trivial
section
open PySem PySem.W PyProof.Rows PySem.Calls PySem.NumText PySem.Builtin PySem.Builtin.Int
set_option maxRecDepth 100000
namespace Mine
theorem wpK.ite_pos {α : Type} {K : Ctx → Prop} {M : Model} {A : Around} {E : Value → Shared → Prop} {s : Shared} {Q : α → Shared → Prop} {c : Prop} [Decidable c] {a b : Sem α} (hc : c) (h : wpK K M A a Q E s) : wpK K M A (if c then a else b) Q E s := by rw [if_pos hc]; exact h
def msgOf (x : Str) : Str := (((s!"invalid literal for int() with base {10}: " : String) : Str) ++ ⟨(reprText x).cps.extract 0 200⟩ : Str)
theorem text_fails {prog : Program} {w : World} {A : Around} {E : Value → Shared → Prop} {s : Shared} {Q : Value → Shared → Prop} {x : Str} {u : Tok} {text : List Nat} (hh : A.handled = none)
    (hs : (text.takeWhile (· != 0)).length ≤ 640) (hr : (int_private% "readNumeral") 0 10 (text.takeWhile (· != 0)) = (int_private% "Numeral.invalid"))
    (hz : (reprText x).length ≤ sizeLine) (hm : (msgOf x).length ≤ sizeLine)
    (h : ∀ h' tk e, Heap.NewExc s.heap h' e "ValueError" → E (.ref e) { s with heap := h', toks := tk }) :
    wpK NoMark (model prog w) A ((int_private% "intFromText") (.str x u) text 10) Q E s := by
  refine wpK.ite_pos (c := (text.takeWhile (· != 0)).length ≤ 640) hs ?_
  refine wpK.first (wpAny_pure ?_)
  dsimp only
  rw [hr]
  dsimp only
  refine wpK.first (wpAny_of_eq (a := none) (by rfl) ?_)
  refine wpK.first (wpAny_rule ?_)
  refine wpK.first (wpAny_of_eq (a := none) (by rfl) ?_)
  dsimp only
  refine wpK.first (wpAny_pyRepr_str ?_ hz)
  refine wpK.first (wpAny_mkStr ?_ hm)
  refine wpK.first (wpAny_newExc_plain plainExc_ValueError fun h' e hx => ?_)
  refine wpK.bind (mark_none ?_)
  refine wpK.up (wpAny_raiseNew_none hh ?_)
  exact h h' _ e hx.newExc
end Mine
end
theorem Mine.fresh16 : True := by
  w_top off
  trivial
section
open PySem PySem.W PyProof.Rows PySem.Calls PySem.NumText PySem.Builtin PySem.Builtin.Int
set_option maxRecDepth 100000
namespace Mine
theorem numX (x : Str) (u : Tok) : (int_private% "numeralText?") (.str x u) = pure (some (numTextOf x)) := by rfl
theorem invalid_of {x : Str} (hn : PySem.intText? x = none) (hs : (numSeenOf x).length ≤ 640) (hl : ((numSeenOf x).length == (numTextOf x).length) = true) :
    (int_private% "readNumeral") 0 10 ((numTextOf x).takeWhile (· != 0)) = (int_private% "Numeral.invalid") := by
  rcases read0 x hs with ⟨m, h1, _⟩ | ⟨_, h2 | ⟨i, _, h3⟩⟩
  · rw [hn] at h1; cases h1
  · exact h2
  · exact absurd hl h3
theorem new2 (x : Str) (u t : Tok) : Builtin.«int.__new__» ⟨[.type "int", .str x u, .int 10 t], []⟩ = ((int_private% "intFromText") (.str x u) (numTextOf x) 10 >>= fun v => ret v) := by
  have h1 : isType (.type "int") = pure true := by rfl
  have h2 : intIndex "int.__new__" (.int 10 t) = pure 10 := by rfl
  unfold Builtin.«int.__new__»
  (try dsimp only)
  simp only [h1, F.conv_sub_int, F.madeHere_int, pure_bind]
  repeat rw [if_neg (by decide)]
  simp only [List.forIn_nil, pure_bind, List.head?_cons]
  show (do let base ← intIndex "int.__new__" (.int 10 t); _) = _
  rw [h2, pure_bind]
  repeat rw [if_neg (by decide)]
  rw [numX, pure_bind]
  rfl
theorem fromObj (x : Str) (u : Tok) : (int_private% "intFromObject") (.str x u) = (int_private% "intFromText") (.str x u) (numTextOf x) 10 := by
  have h3 : typeOf (.str x u) = pure (.type "str") := by rfl
  have q1 : specialOf (.str x u) "__int__" = pure none := by unfold specialOf; rw [h3, pure_bind, KIN.str_int]
  have q2 : specialOf (.str x u) "__index__" = pure none := by unfold specialOf; rw [h3, pure_bind, KIN.str_idx]
  have q3 : specialOf (.str x u) "__trunc__" = pure none := by unfold specialOf; rw [h3, pure_bind, KIN.str_trunc]
  have q4 : callSpecial? (.str x u) "__int__" = pure none := by unfold callSpecial?; rw [q1]; rfl
  show (callSpecial? (.str x u) "__int__" >>= _) = _
  rw [q4, pure_bind]
  show (specialOf (.str x u) "__index__" >>= _) = _
  rw [q2, pure_bind]
  show (specialOf (.str x u) "__trunc__" >>= _) = _
  rw [q3, pure_bind]
  show ((int_private% "numeralText?") (.str x u) >>= _) = _
  rw [numX, pure_bind]
theorem new1 (x : Str) (u : Tok) : Builtin.«int.__new__» ⟨[.type "int", .str x u], []⟩ = ((int_private% "intFromText") (.str x u) (numTextOf x) 10 >>= fun v => ret v) := by
  have h1 : isType (.type "int") = pure true := by rfl
  unfold Builtin.«int.__new__»
  dsimp only
  simp only [h1, F.conv_sub_int, F.madeHere_int, pure_bind]
  repeat rw [if_neg (by decide)]
  simp only [List.forIn_nil, pure_bind, List.head?_cons]
  show ((int_private% "intFromObject") (.str x u) >>= _) = _
  rw [fromObj]
  rfl
theorem typeCall2 (a b : Value) : checkTypeCall "int" ⟨[a, b], []⟩ = pure () := by kernel_rfl
theorem newCall2 (a b : Value) : checkBuiltinCall "int.__new__" ⟨[.type "int", a, b], []⟩ = pure () := by kernel_rfl
/-- type.__call__ of int, cut at the call of int.__new__. -/
theorem type_call_cut (args : List Value) (hc : checkTypeCall "int" ⟨args, []⟩ = pure ()) : ∃ K : Value → Sem PySem.Fin,
    Builtin.«type.__call__» ⟨.type "int" :: args, []⟩ = (holding [.builtin "int.__new__"] (call (.builtin "int.__new__") (.type "int" :: args) []) >>= K) := by
  have h1 := F.called_int.notType
  have h2 := F.called_int.canCreate
  have h3 := F.mro_int
  have h4 := F.called_int.made
  unfold Builtin.«type.__call__»
  dsimp only
  simp only [h1, h2, hc, h3, h4, Bool.false_eq_true, if_false, pure_bind, List.isEmpty_cons]
  exact ⟨_, rfl⟩
end Mine
end
theorem Mine.fresh17 : True := by
  w_top off
  trivial
section
open PySem PySem.W PyProof.Rows PySem.Calls PySem.NumText PySem.Builtin PySem.Builtin.Int
set_option maxRecDepth 100000
namespace Mine
open PySem.Sem (wp)
theorem wpK.weaken {α : Type} {K K' : Ctx → Prop} {M : Model} {A : Around} {t : Sem α} {Q : α → Shared → Prop} {E : Value → Shared → Prop} {s : Shared} (h : wpK K' M A t Q E s) (hK : ∀ Γ, K Γ → K' Γ) : wpK K M A t Q E s :=
  fun Γ p a b => h Γ p a (hK Γ b)
section
variable {prog : Program} {w : World} {A : Around} {E : Value → Shared → Prop} {s : Shared}
theorem int_fails {K0 K1 K2 : Ctx → Prop} (args : List Value) (hc : checkTypeCall "int" ⟨args, []⟩ = pure ()) (hcn : checkBuiltinCall "int.__new__" ⟨.type "int" :: args, []⟩ = pure ())
    (h01 : ∀ Γ p, K0 Γ → K1 (Γ.enter (.call (.type "int") ⟨args, []⟩) none p)) (g1 : ∀ Γ c, K1 Γ → K1 (Γ.goto c))
    (h12 : ∀ Γ p, K1 Γ → Γ.code = .builtin "type.__call__" ⟨.type "int" :: args, []⟩ → K2 (Γ.enter (.call (.builtin "int.__new__") ⟨.type "int" :: args, []⟩) none p)) (g2 : ∀ Γ c, K2 Γ → K2 (Γ.goto c))
    (hno : ∀ Γ, K2 Γ → Γ.code = .builtin "int.__new__" ⟨.type "int" :: args, []⟩ → NoMark Γ) (hh : A.handled = none)
    (hf : ∀ A' : Around, A'.handled = none → wpK NoMark (model prog w) A' (Builtin.«int.__new__» ⟨.type "int" :: args, []⟩) (fun _ _ => False) E s) {Q : Value → Shared → Prop} :
    wpK K0 (model prog w) A (call (.type "int") args) Q E s := by
  refine wpK.call h01 (codeK.of_tree (K' := K1) (fun Γ c' b _ => g1 Γ c' b) (wpK.up ?_))
  show wpAny _ _ (callAny (.type "int") _) _ _ _
  refine wpAny_pure ⟨Code.quiet_builtin _ (by decide +kernel), codeK.builtin F.entry_type_call ?_⟩
  obtain ⟨K, e⟩ := type_call_cut args hc
  rw [e]
  refine wpK.bind (wpK.holding (wpK.mono (Q := fun _ _ => False) ?_ (fun _ _ q => q.elim) fun _ _ q => q))
  refine wpK.call (K' := K2) (fun Γ p b => h12 Γ p b.1 b.2) ?_
  refine codeK.of_tree (K' := K2) (fun Γ c' b _ => g2 Γ c' b) (wpK.up ?_)
  show wpAny _ _ (do checkBuiltinCall "int.__new__" _; again (.builtin "int.__new__" _)) _ _ _
  rw [hcn]
  refine wpAny_bind (wpAny_pure (wpAny_pure ⟨Code.quiet_builtin _ (by decide +kernel), codeK.builtin F.entry_int_new ?_⟩))
  refine wpK.weaken (K' := NoMark) (wpK.mono (hf _ hh) (fun _ _ q => q.elim) fun _ _ q => q) fun Γ b => hno Γ b.1 b.2
/-- What a failing text raises, from int.__new__ with the base written. -/
theorem new2_fails {x : Str} {u t : Tok} (hn : PySem.intText? x = none) (hs : (numSeenOf x).length ≤ 640) (hl : ((numSeenOf x).length == (numTextOf x).length) = true) (hz : (reprText x).length ≤ sizeLine) (hm : (msgOf x).length ≤ sizeLine)
    (h : ∀ h' tk e, Heap.NewExc s.heap h' e "ValueError" → E (.ref e) { s with heap := h', toks := tk }) (hh : A.handled = none) :
    wpK NoMark (model prog w) A (Builtin.«int.__new__» ⟨[.type "int", .str x u, .int 10 t], []⟩) (fun _ _ => False) E s := by
  rw [new2]
  exact wpK.bind (wpK.mono (Q := fun _ _ => False) (text_fails hh hs (invalid_of hn hs hl) hz hm h) (fun _ _ q => q.elim) fun _ _ q => q)
theorem new1_fails {x : Str} {u : Tok} (hn : PySem.intText? x = none) (hs : (numSeenOf x).length ≤ 640) (hl : ((numSeenOf x).length == (numTextOf x).length) = true) (hz : (reprText x).length ≤ sizeLine) (hm : (msgOf x).length ≤ sizeLine)
    (h : ∀ h' tk e, Heap.NewExc s.heap h' e "ValueError" → E (.ref e) { s with heap := h', toks := tk }) (hh : A.handled = none) :
    wpK NoMark (model prog w) A (Builtin.«int.__new__» ⟨[.type "int", .str x u], []⟩) (fun _ _ => False) E s := by
  rw [new1]
  exact wpK.bind (wpK.mono (Q := fun _ _ => False) (text_fails hh hs (invalid_of hn hs hl) hz hm h) (fun _ _ q => q.elim) fun _ _ q => q)
/-- int(x, 10) of a text that is no number, under the claim's caller. -/
theorem int2_fails {x : Str} {u t : Tok} {Q : Value → Shared → Prop} (hn : PySem.intText? x = none) (hs : (numSeenOf x).length ≤ 640) (hl : ((numSeenOf x).length == (numTextOf x).length) = true) (hz : (reprText x).length ≤ sizeLine) (hm : (msgOf x).length ≤ sizeLine)
    (hh : A.handled = none) (h : ∀ h' tk e, Heap.NewExc s.heap h' e "ValueError" → E (.ref e) { s with heap := h', toks := tk }) :
    wpH (model prog w) A (call (.type "int") [.str x u, .int 10 t]) Q E s := by
  show wpK Hb _ _ _ _ _ _
  refine int_fails (K0 := Hb) (K1 := Hb) (K2 := Hb) _ (typeCall2 _ _) (newCall2 _ _) (fun Γ p b => b.enter _ _ _) (fun Γ c b => b.goto c) (fun Γ p b _ => b.enter _ _ _) (fun Γ c b => b.goto c) (fun Γ b _ => ?_) hh fun A' hh' => new2_fails hn hs hl hz hm h hh'
  show pythonCodeMadeTheCall ["int.__new__"] (Γ.code :: Γ.below.map (·.1)) = false
  unfold pythonCodeMadeTheCall
  have hb : (Γ.code :: Γ.below.map (·.1)).any Code.isCaller = true := by
    rw [List.any_cons, List.any_map]
    have b' : Γ.below.any (Code.isCaller ∘ fun x => x.1) = true := b
    rw [b', Bool.or_true]
  show (!((Γ.code :: Γ.below.map (·.1)).any Code.isCaller) && _ && _) = false
  rw [hb]
  rfl
end
end Mine
end
theorem Mine.fresh18 : True := by
  w_top off
  trivial
section
open PySem PySem.W PyProof.Rows PySem.Calls PySem.NumText PySem.Builtin PySem.Builtin.Int
set_option maxRecDepth 100000
namespace Mine
theorem init3 (a b c : Value) : argsOk "object.__init__" ⟨[a, b, c], []⟩ := by
  unfold argsOk; rw [signature?_of (id := "object.__init__") (n := ['_', '_', 't', 'i', 'n', 'i', '_', '_']) (o := ['t', 'c', 'e', 'j', 'b', 'o']) (by kernel_rfl) F.owner_object]; kernel_rfl
section
variable {prog : Program} {w : World} {A : Around} {E : Value → Shared → Prop} {s : Shared}
theorem wpH.Try {M : Model} {env : Env} {body orelse : List Stmt} {h₀ : ExceptHandler} {hs : List ExceptHandler} {pos : Pos} {Q : Flow → Shared → Prop}
    (h : wpH M A (execs body env) (fun f s₁ => match f with | .next => wpAny M A (execs orelse env) Q E s₁ | f => Q f s₁)
      (fun e s₁ => wpAny M A (noteFrame e env) (fun _ s₂ => wpAny M A (setFlight e none) (fun _ s₃ => wpAny M A (handleBy e env (h₀ :: hs)) Q E s₃) E s₂) E s₁) s) :
    wpH M A (exec (.Try body (h₀ :: hs) orelse [] pos) env) Q E s := by
  rw [arm_exec_Try]
  refine wpH.first (wpAny_standAt ?_)
  unfold tryStmt
  simp only [List.isEmpty_nil, if_true, List.isEmpty_cons, Bool.false_and, Bool.false_eq_true, if_false]
  refine wpH.bind (wpH.attempt (h.mono (fun f s₁ h₁ => ?_) fun e s₁ h₁ => ?_))
  · cases f <;> first | exact wpH.up h₁ | exact wpH.pure h₁
  · exact wpH.up (wpAny_bind (wpAny_mono h₁ (fun _ _ h₂ => wpAny_bind h₂) fun _ _ x => x))
theorem int2_gives {x : Str} {u t : Tok} {n : Int} {Q : Value → Shared → Prop} (hn : PySem.intText? x = some n) (hl : x.length ≤ 640) (h : Q (.int n s.toks) { s with toks := s.toks + 1 }) :
    wpAny (model prog w) A (call (.type "int") [.str x u, .int 10 t]) Q E s := by
  have hs : (numSeenOf x).length ≤ 640 := Nat.le_trans (seen_length x) hl
  have hr : (int_private% "readNumeral") 0 10 (numSeenOf x) = (int_private% "Numeral.value") n ∧ ((numSeenOf x).length == (numTextOf x).length) = true := by
    rcases read0 x hs with ⟨m, h1, h2, h3⟩ | ⟨h1, _⟩
    · rw [hn] at h1
      injection h1 with h1
      subst h1
      exact ⟨h3, h2⟩
    · rw [hn] at h1
      cases h1
  refine callType_new F.called_int F.newNe_int (typeCall2 _ _) (newCall2 _ _) (fun obj => init3 obj _ _) F.entry_int_new (S := fun A R s => R (.ok (.ret (.int n s.toks))) { s with toks := s.toks + 1 }) ?_ ⟨rfl, h⟩
  intro prog w A R s hs'
  rw [new2]
  exact wpAny_bind (KIN.wp_text hs hr.1 hr.2 (wpAny_pure hs'))
end
end Mine
end
theorem Mine.fresh19 : True := by
  w_top off
  trivial
section
open PySem PySem.W PyProof.Rows PySem.Calls
set_option maxRecDepth 100000
namespace Mine
section
variable {M : Model} {A : Around} {E : Value → Shared → Prop} {s : Shared} {env : Env}
theorem wpH.Call_Name {id : Str} {p pos : Pos} {args : List Expr} {Q : Value → Shared → Prop}
    (h : wpAny M A (eval (.Name id p) env) (fun f s₁ => wpH M A (PySem.callWith pos f [] (backTo pos (starEach args env)) []) Q E s₁) E s) :
    wpH M A (eval (.Call (.Name id p) args [] pos) env) Q E s := by
  rw [arm_eval_Call_Name']
  exact wpH.first h
theorem callTail {t : Sem Value} {Q : Value → Shared → Prop} (ht : wpH M A t Q E s) : wpH M A (t >>= fun r => holding [r] point >>= fun _ => pure r) Q E s :=
  wpH.bind (ht.mono (fun r s₂ hr => wpH.up (wpAny_bind (wpAny_holding (wpAny_point (wpAny_pure hr))))) fun _ _ x => x)
theorem wpH.callWith_type {pos : Pos} {T : String} {args : List (Bool × Sem Value)} {Q : Value → Shared → Prop} (hplain : args.any (·.1) = false)
    (h : wpAny M A (evalArgs (.type T) true args []) (fun a s₁ => wpH M A (PySem.call (.type T) a.pos a.kw) Q E s₁) E s) :
    wpH M A (PySem.callWith pos (.type T) [] args []) Q E s := by
  unfold callWith
  refine wpH.first (wpAny_holding (wpAny_mono h (fun a s₁ h₁ => wpH.first (wpAny_standAt ?_)) fun _ _ x => x))
  simp only [hplain, List.any_nil, Bool.or_false]
  refine wpH.first (wpAny_pure ?_)
  exact callTail h₁
theorem wpH.callWith_function {pos : Pos} {a : Addr} {o : Obj} {fd : FuncData} {args : List (Bool × Sem Value)} {Q : Value → Shared → Prop} (hplain : args.any (·.1) = false) (hlen : args.length ≤ 30)
    (h : wpAny M A (evalArgs (.ref a) true args []) (fun x s₁ => (s₁.heap.get? a = some o ∧ o.data = .func fd) ∧ wpH M A (PySem.call (.ref a) x.pos x.kw) Q E s₁) E s) :
    wpH M A (PySem.callWith pos (.ref a) [] args []) Q E s := by
  unfold callWith
  refine wpH.first (wpAny_holding (wpAny_mono h (fun x s₁ h₁ => wpH.first (wpAny_standAt ?_)) fun _ _ x => x))
  simp only [hplain, List.any_nil, Bool.or_false]
  refine wpH.bind (m := keeperOf (.ref a)) ?_
  unfold keeperOf
  refine wpH.first (wpAny_load h₁.1.1 ?_)
  rw [h₁.1.2]
  refine wpH.pure ?_
  dsimp only
  rw [if_neg (by simp; omega)]
  refine callTail ?_
  unfold callMarked
  exact fun Γ p a b => by rw [Sem.wp_keep]; exact h₁.2 Γ p a b
theorem wpH.callType {pos : Pos} {T : String} {e : Expr} {rest : List Expr} {Q : Value → Shared → Prop}
    (h : wpAny M A (spliced (backTo pos (starEach (e :: rest) env))) (fun vs s₁ => wpH M A (PySem.call (.type T) vs) Q E s₁) E s)
    (he : starEach (e :: rest) env = (false, eval e env) :: starEach rest env := by rfl) (hplain : (backTo pos (starEach rest env)).any (·.1) = false := by rfl) :
    wpH M A (PySem.callWith pos (.type T) [] (backTo pos (starEach (e :: rest) env)) []) Q E s := by
  rw [he] at h ⊢
  exact wpH.callWith_type (by show (false || (backTo pos (starEach rest env)).any (·.1)) = false; rw [hplain]; rfl) (evalArgs_plain h)
theorem wpH.callFun {pos : Pos} {a : Addr} {o : Obj} {fd : FuncData} {e : Expr} {rest : List Expr} {Q : Value → Shared → Prop} (hdat : o.data = .func fd)
    (h : wpAny M A (spliced (backTo pos (starEach (e :: rest) env))) (fun vs s₁ => s₁.heap.get? a = some o ∧ wpH M A (PySem.call (.ref a) vs) Q E s₁) E s)
    (hlen : (backTo pos (starEach (e :: rest) env)).length ≤ 30)
    (he : starEach (e :: rest) env = (false, eval e env) :: starEach rest env := by rfl) (hplain : (backTo pos (starEach rest env)).any (·.1) = false := by rfl) :
    wpH M A (PySem.callWith pos (.ref a) [] (backTo pos (starEach (e :: rest) env)) []) Q E s := by
  rw [he] at h hlen ⊢
  exact wpH.callWith_function (o := o) (fd := fd) (by show (false || (backTo pos (starEach rest env)).any (·.1)) = false; rw [hplain]; rfl) hlen (evalArgs_plain (wpAny_mono h (fun vs s₁ h₁ => ⟨⟨h₁.1, hdat⟩, h₁.2⟩) fun _ _ x => x))
end
end Mine
end
theorem Mine.fresh20 : True := by
  w_top off
  trivial
section
open PySem PySem.W PyProof.Rows
set_option maxRecDepth 100000
set_option maxHeartbeats 8000000
namespace Mine

inductive Cell
  | I (k : Int)
  | S (x : Str)
inductive Cells : List Value → List Cell → Prop
  | nil : Cells [] []
  | int {k : Int} {t : Tok} {vs : List Value} {cs : List Cell} (h : Cells vs cs) : Cells (.int k t :: vs) (.I k :: cs)
  | str {x : Str} {t : Tok} {vs : List Value} {cs : List Cell} (h : Cells vs cs) : Cells (.str x t :: vs) (.S x :: cs)
theorem fr_has {h₀ h : Heap} {L : Addr} {m : Str → Option Value} {y : Str} {v : Value} (F : Fr h₀ L h m) (e : m y = some v) : Fr h₀ L h (fun z => if z = y then some v else m z) := by
  have : m = (fun z => if z = y then some v else m z) := by
    funext z
    by_cases q : z = y
    · rw [if_pos q, q, e]
    · rw [if_neg q]
  rw [← this]; exact F
def digs (p : Str) : Prop := ∀ c ∈ p.cps.toList, 48 ≤ c ∧ c ≤ 57
inductive Kind : Str → List Cell → Prop
  | skip0 : Kind (Str.ofString "") []
  | skip1 : Kind (Str.ofString ".") []
  | skip2 : Kind (Str.ofString "+") []
  | c : Kind (Str.ofString "C") [.I 0, .S (Str.ofString "C")]
  | num {p : Str} {n : Int} (ho : (PySem.Builtin.Str.occurrences (Str.ofString "._+-") p 0 (Str.ofString "._+-").length 1).isEmpty = true) (hv : PySem.intText? p = some n) (hl : p.length ≤ 640) : Kind p [.I 100, .I n]
theorem wpH.gen {M : Model} {A : Around} {t : Sem Flow} {Q : Flow → Shared → Prop} {E : Value → Shared → Prop} {s : Shared} (C : (Flow → Shared → Prop) → Prop) (hC : C Q) (h : ∀ Q', C Q' → wpH M A t Q' E s) : wpH M A t Q E s := h Q hC
theorem Cells.length : ∀ {vs : List Value} {cs : List Cell}, Cells vs cs → vs.length = cs.length
  | _, _, .nil => rfl
  | _, _, .int h => congrArg (· + 1) h.length
  | _, _, .str h => congrArg (· + 1) h.length
theorem Cells.append : ∀ {vs ws : List Value} {cs ds : List Cell}, Cells vs cs → Cells ws ds → Cells (vs ++ ws) (cs ++ ds)
  | _, _, _, _, .nil, g => g
  | _, _, _, _, .int h, g => .int (h.append g)
  | _, _, _, _, .str h, g => .str (h.append g)
theorem take_flat {α : Type} (l : List (List α)) (i : Nat) : (l.take i).flatten.length ≤ l.flatten.length := by
  conv => rhs; rw [← List.take_append_drop i l]
  rw [List.flatten_append, List.length_append]; omega
theorem take_snoc {α : Type} {l : List (List α)} {i : Nat} {c : List α} (h : l[i]? = some c) : (l.take (i + 1)).flatten = (l.take i).flatten ++ c := by
  rw [List.take_add_one, h]; simp
theorem sameUp_map : ∀ {a b : List (Addr × Obj)}, TI.SameUp a b → b.map (·.1) = a.map (·.1)
  | [], [], _ => rfl
  | [], _ :: _, h => False.elim h
  | _ :: _, [], h => False.elim h
  | p :: ps, q :: qs, h => by
    obtain ⟨h1, _, h3⟩ := h
    simp only [List.map_cons, h1, sameUp_map h3]
theorem strs_get : ∀ {vs : List Value} {xs : List Str} {i : Nat} {v : Value}, Rex.StrList vs xs → vs[i]? = some v → ∃ p t, v = .str p t ∧ xs[i]? = some p
  | _, _, 0, _, .cons _, e => ⟨_, _, (Option.some.inj e).symm, rfl⟩
  | _, _, i + 1, _, .cons h, e => strs_get (i := i) h e
open Rex PySem.Builtin PySem.Builtin.Re in
theorem c_comp (w : World) (news) (x : Str) (t : Tok) (cut : List (Nat × Nat)) (cells : List (List Cell)) (hb : x.length ≤ 100) (hcut : Cuts x.cps 0 cut) (hlen : (pieces x.cps 0 cut).length ≤ 100) (hn : cut.length + 1 ≤ 2 * x.cps.size + 3) (hcl : cells.flatten.length ≤ 100) (hcn : cells.length = (pieces x.cps 0 cut).length)
   (hk2 : ∀ (i : Nat) (p : Str), (pieces x.cps 0 cut)[i]? = some p → ∃ cs : List Cell, cells[i]? = some cs ∧ Kind p cs) :
   TellsHF w 44 news [.str x t] (fun new v => ∃ l its n, v = .ref l ∧ new = [(l, W.listOf its n)] ∧ Cells its.toList cells.flatten) := by
  have big : 100 ≤ sizeLine := by decide
  have szl : sizeLine = 16777216 := rfl
  unfold TellsHF
  intro mean mg mb dp un gd cn cs a ccd cl outer frs h₀ L m s Q E Fs F X N T hk hd hu hap hret
  refine wpH.call ?_
  have kf : Fill PySem.Challenge.rw_wn0026_01 Mine.hd.heap_39 := by (k_fill; exact trivial)
  clear kf
  k_dflt (refine' codeHF_def ?k2 ?k3 ?k4 ?k5 ?kA ?kS ?kF ?kK ?kQ ?k6 ?k7 ?k8 ?k9 ?kB ?_ ?c2 ?c3 ?c4 ?c5; (case kA => exact rfl); (case kF => exact rfl); (case kK => assumption); (case k2 => k_asm); (case k3 => k_asm); (case k4 => exact N); (case k5 => k_asm); (case kS => exact Fs); (case kQ => exact hap); (case k6 => k_is); (case k7 => k_is); (case k8 => ktr_room); (case k9 => exact BindsTo.of_eq rfl); (case c5 => decide); (case kB => exact locs rfl); (case c2 => exact rfl); (case c3 => exact rfl); (case c4 => exact rfl); k_whole)
  intro oL L' h' AT
  have F' := AT.hfr
  have N' := AT.hnews
  (try dsimp only)
  (try k_fold)
  refine wpH.step ?_
  k_steps
  refine ⟨rfl, ?_⟩
  refine wpH.step ?_
  k_steps
  refine ⟨rfl, ?_⟩
  refine wpH.execs_cons (wpH.For ?_)
  k_steps
  rename Fr _ _ _ _ => F1
  rename News _ _ _ _ => N1
  rename Addr => lr
  have e36 := F1.keep _ _ (X 36 _ (by k_is))
  have e35 := F1.keep _ _ (X 35 _ (by k_is))
  refine getMethod_split e36 rfl rfl ?_
  k_steps
  refine call_split e36 rfl rfl rfl rfl rfl e35 rfl (by decide +kernel) (Nat.le_trans hb big) (Nat.le_trans hlen big) hcut hn fun vs tk' hvs => ?_
  refine wpAny_pyIter_list ⟨_, Heap.get?_push_size _ rfl, rfl, _, rfl⟩ ?_
  dsimp only
  rename Heap => h1
  have hlr : ∀ p ∈ news ++ (L, oL) :: frs, p.1 < lr := by assumption
  have hlr1 : lr < h1.objs.size := Heap.lt_size (N1 _ (.head _)).1
  have far : ∀ q ∈ ((L, oL) :: frs).map (·.1), q ≠ lr ∧ q ≠ h1.objs.size ∧ q ≠ (h1.push { cls := Value.type "list", data := Data.seq vs.toArray 0 }).objs.size := by
    intro q hq
    obtain ⟨p, hp, rfl⟩ := List.mem_map.mp hq
    have lt1 : p.1 < h1.objs.size := Heap.lt_size (N1 p (List.mem_cons_of_mem _ (List.mem_append_right _ hp))).1
    exact ⟨Nat.ne_of_lt (hlr p (List.mem_append_right _ hp)), Nat.ne_of_lt lt1, by rw [Heap.size_push]; exact Nat.ne_of_lt (Nat.lt_succ_of_lt lt1)⟩
  have hsz := Heap.size_push h1 { cls := Value.type "list", data := Data.seq vs.toArray 0 }
  refine listLoopH (h₀ := h₀) (lst := h1.objs.size) (items := vs.toArray) rfl rfl rfl ((F1.push _).push _) (fun p hp => ⟨Heap.get?_push_of_some _ (Heap.get?_push_of_some _ (N1 p hp).1), (N1 p hp).2⟩)
    ⟨_, Heap.get?_push_of_some _ (Heap.get?_push_size _ rfl), rfl, _, rfl⟩ ⟨_, Heap.get?_push_size _ rfl, rfl, rfl⟩ (next_is_new F1) (next_is_new (F1.push _)) (Nat.ne_of_lt F1.ns.lt) (Nat.ne_of_lt (F1.push _).ns.lt) (by rw [hsz]; exact Nat.ne_of_lt (Nat.lt_succ_self _))
    (fun p hp => Nat.ne_of_lt (Heap.lt_size (Heap.get?_push_of_some _ (N1 p hp).1)))
    (fun i m₁ led₁ => ∃ its n frs₂, led₁ = (lr, W.listOf its n) :: (news ++ frs₂) ∧ TI.SameUp ((L, oL) :: frs) frs₂ ∧ m₁ (Str.ofString "result") = some (.ref lr) ∧ Cells its.toList (cells.take i).flatten)
    ⟨#[], 0, _, rfl, TI.SameUp.refl _, rfl, .nil⟩ ?step ?done
  case step =>
    rintro i v m₁ led₁ h tk olst oit hv ⟨its, n, frs₂, rfl, SU, hm, hc⟩ hadr F3 N3
    obtain ⟨p, tp, rfl, hp⟩ := strs_get hvs (by simpa using hv)
    obtain ⟨cs, hcs, K⟩ := hk2 i p hp
    have hm' : (if Str.ofString "result" = Str.ofString "v" then some (Value.str p tp) else m₁ (Str.ofString "result")) = some (.ref lr) := by rw [if_neg (by decide)]; exact hm
    have F4 := fr_has (y := Str.ofString "result") (v := .ref lr) F3 hm'
    clear F3 F1 N1
    refine wpH.gen (fun Q' => ∀ its' n' frs' m' h' tk', Fr h₀ L' h' m' → m' (Str.ofString "result") = some (.ref lr) → News h₀ L' h' ((lr, W.listOf its' n') :: (news ++ frs') ++ [(h1.objs.size, olst), ((h1.push { cls := Value.type "list", data := Data.seq vs.toArray }).objs.size, oit)]) →
      TI.SameUp ((L, oL) :: frs) frs' → Cells its'.toList (cells.take (i + 1)).flatten → Q' .next { s with heap := h', toks := tk' }) ?gC fun Q' hQ' => ?_
    case gC =>
      intro its' n' frs' m' h' tk' F' hm' N' SU' hc'
      exact ⟨rfl, m', _, h', tk', rfl, F', N', by simp [sameUp_map SU'], its', n', frs', rfl, SU', hm', hc'⟩
    refine wpH.execs_cons (wpH.If ?_)
    have fin : ∀ (its' : Array Value) (n' : Nat) (frs' : List (Addr × Obj)) (D : Addr) (tup : Obj) (rest : List (Addr × Obj)) (m' : Str → Option Value) (h' : Heap) (tk' : Nat), Fr h₀ L' h' m' → News h₀ L' h' ((D, tup) :: (lr, W.listOf its' n') :: rest) →
        (∀ p ∈ (news ++ frs') ++ [(h1.objs.size, olst), ((h1.push { cls := Value.type "list", data := Data.seq vs.toArray 0 }).objs.size, oit)], p ∈ rest) → m' (Str.ofString "result") = some (.ref lr) → TI.SameUp ((L, oL) :: frs) frs' → Cells its'.toList (cells.take (i + 1)).flatten → Q' .next { s with heap := h', toks := tk' } :=
      fun its' n' frs' D tup rest m' h' tk' F N hr hm SU hc => hQ' its' n' frs' m' h' tk' F hm (fun p hp => N p (by
        rcases List.mem_cons.mp hp with rfl | hp
        · exact .tail _ (.head _)
        · exact .tail _ (.tail _ (hr p hp)))) SU hc
    cases K with
    | skip0 =>
      k_steps
      · exact absurd ‹_› (by decide +kernel)
      · refine wpH.up (wpAny_execs_nil ?_)
        dsimp only
        refine wpH.up (wpAny_execs_nil ?_)
        exact hQ' its n frs₂ _ _ _ F4 (by rw [if_pos rfl]) N3 SU (by rw [take_snoc hcs, List.append_nil]; exact hc)
    | skip1 =>
      k_steps
      · exact absurd ‹_› (by decide +kernel)
      · refine wpH.up (wpAny_execs_nil ?_)
        dsimp only
        refine wpH.up (wpAny_execs_nil ?_)
        exact hQ' its n frs₂ _ _ _ F4 (by rw [if_pos rfl]) N3 SU (by rw [take_snoc hcs, List.append_nil]; exact hc)
    | skip2 =>
      k_steps
      · exact absurd ‹_› (by decide +kernel)
      · refine wpH.up (wpAny_execs_nil ?_)
        dsimp only
        refine wpH.up (wpAny_execs_nil ?_)
        exact hQ' its n frs₂ _ _ _ F4 (by rw [if_pos rfl]) N3 SU (by rw [take_snoc hcs, List.append_nil]; exact hc)
    | c =>
      k_steps
      · refine wpH.execs_cons (wpH.Try ?_)
        refine wpH.execs_cons (wpH.Assign_Name ?_)
        refine wpH.Call_Name ?_
        k_steps
        refine wpH.callType ?_
        k_steps
        refine int2_fails (x := Str.ofString "C") (by decide +kernel) (by decide +kernel) (by decide +kernel) (by decide +kernel) (by decide +kernel) ?hh fun h5 tk5 e5 hx => ?_
        case hh => exact rfl
        rename Fr _ _ _ _ => F5
        have SUm := sameUp_map SU
        have N5 : News h₀ L' _ (((lr, W.listOf its n) :: (h1.objs.size, olst) :: ((h1.push { cls := Value.type "list", data := Data.seq vs.toArray }).objs.size, oit) :: news) ++ frs₂) := fun p hp => N3 p (by
          simp only [List.mem_append, List.mem_cons, List.not_mem_nil, or_false] at hp ⊢
          rcases hp with ((h | h | h | h) | h)
          · exact .inl (.inl h)
          · exact .inr (.inl h)
          · exact .inr (.inr h)
          · exact .inl (.inr (.inl h))
          · exact .inl (.inr (.inr h)))
        refine TLg.noted_newA (frs := frs₂) rfl (AT.hfrs.up SU) hx F5 N5 ?hap fun h6 frs6 SU6 Fs6 H6 => ?_
        case hap =>
          intro p hp hq
          rcases List.mem_cons.mp hq with hq | hq
          · exact (N5 p (List.mem_append_left _ hp)).2.1 hq
          · rw [SUm] at hq
            obtain ⟨f1, f2, f3⟩ := far _ hq
            simp only [List.mem_cons] at hp
            rcases hp with rfl | rfl | rfl | hp
            · exact f1 rfl
            · exact f2 rfl
            · exact f3 rfl
            · exact AT.apart p hp hq
        refine TT.HeldNA.land H6 fun h7 H7 => ?_
        refine TT.clause_hitTN H7 T (k := fun h8 F8 N8 => ?_)
        k_steps
        dsimp only
        refine wpH.step ?_
        k_steps
        rename Fr _ _ _ _ => F9
        rename News _ _ _ _ => N9
        rename Addr => D
        have hD : lr < D := by
          have hall : ∀ p ∈ (((lr, W.listOf its n) :: (h1.objs.size, olst) :: ((h1.push { cls := Value.type "list", data := Data.seq vs.toArray 0 }).objs.size, oit) :: news ++ frs6)), p.1 < D := by assumption
          exact hall (lr, W.listOf its n) (.head _)
        have hil : its.size ≤ 100 := by rw [← Array.length_toList, hc.length]; exact Nat.le_trans (take_flat cells i) hcl
        have hrest : ∀ p ∈ (((h1.objs.size, olst) :: ((h1.push { cls := Value.type "list", data := Data.seq vs.toArray 0 }).objs.size, oit) :: news ++ frs6)), p.1 ≠ lr := by
          intro p hp
          have hfr : ∀ p ∈ frs6, p.1 ≠ lr := fun p hp => (far _ ((sameUp_map (SU.trans SU6)) ▸ List.mem_map_of_mem (f := fun x => x.1) hp)).1
          simp only [List.mem_append, List.mem_cons, List.not_mem_nil, or_false] at hp
          rcases hp with ((rfl | rfl | h) | h)
          · exact Nat.ne_of_gt hlr1
          · rw [hsz]; exact Nat.ne_of_gt (Nat.lt_succ_of_lt hlr1)
          · exact Nat.ne_of_lt (hlr p (List.mem_append_left _ h))
          · exact hfr p h
        refine kup_extend (its := its) (n := n) F9 N9 (.head _) rfl (by simp) (Upd.tail (Nat.ne_of_gt hD) (Upd.head hrest)) ?hd1 ?hd2 ?hd3 fun h9 F10 N10 => ?_
        case hd1 => simp [PySem.Builtin.List.listTooLong, szl]; omega
        case hd2 => rw [Array.length_toList, szl]; omega
        case hd3 => rw [szl]; simp; omega
        refine ⟨rfl, wpH.up (wpAny_execs_nil ?_)⟩
        dsimp only
        refine wpH.up (wpAny_execs_nil ?_)
        refine fin _ _ frs6 _ _ _ _ _ _ F10 N10 ?r2a ?r1a (SU.trans SU6) ?r3a
        case r1a => rw [if_neg (by decide), if_pos rfl]
        case r2a =>
          intro p hp
          simp only [List.mem_append, List.mem_cons, List.not_mem_nil, or_false] at hp ⊢
          rcases hp with ((h | h) | h | h)
          all_goals simp [h]
        case r3a =>
          rw [take_snoc hcs]
          simpa using hc.append (.int (.str .nil))
      · exact absurd ‹_› (by decide +kernel)
    | num ho hv hl =>
      k_steps
      · refine wpH.execs_cons (wpH.Try ?_)
        refine wpH.execs_cons (wpH.Assign_Name ?_)
        refine wpH.Call_Name ?_
        k_steps
        refine wpH.callType ?_
        k_steps
        refine wpH.up (int2_gives hv hl ?_)
        k_steps
        dsimp only
        refine wpH.up ?_
        k_steps
        dsimp only
        refine wpH.step ?_
        k_steps
        rename Fr _ _ _ _ => F9
        rename News _ _ _ _ => N9
        rename Addr => D
        have hD : lr < D := by
          have hall : ∀ p ∈ (((lr, W.listOf its n) :: (news ++ frs₂) ++ [(h1.objs.size, olst), ((h1.push { cls := Value.type "list", data := Data.seq vs.toArray 0 }).objs.size, oit)])), p.1 < D := by assumption
          exact hall (lr, W.listOf its n) (.head _)
        have hil : its.size ≤ 100 := by rw [← Array.length_toList, hc.length]; exact Nat.le_trans (take_flat cells i) hcl
        have hrest : ∀ p ∈ (((news ++ frs₂) ++ [(h1.objs.size, olst), ((h1.push { cls := Value.type "list", data := Data.seq vs.toArray 0 }).objs.size, oit)])), p.1 ≠ lr := by
          intro p hp
          have hfr : ∀ p ∈ frs₂, p.1 ≠ lr := fun p hp => (far _ ((sameUp_map SU) ▸ List.mem_map_of_mem (f := fun x => x.1) hp)).1
          simp only [List.mem_append, List.mem_cons, List.not_mem_nil, or_false] at hp
          rcases hp with ((h | h) | (rfl | rfl))
          · exact Nat.ne_of_lt (hlr p (List.mem_append_left _ h))
          · exact hfr p h
          · exact Nat.ne_of_gt hlr1
          · rw [hsz]; exact Nat.ne_of_gt (Nat.lt_succ_of_lt hlr1)
        refine kup_extend (its := its) (n := n) F9 N9 (.head _) rfl (by simp) (Upd.tail (Nat.ne_of_gt hD) (Upd.head hrest)) ?he1 ?he2 ?he3 fun h9 F10 N10 => ?_
        case he1 => simp [PySem.Builtin.List.listTooLong, szl]; omega
        case he2 => rw [Array.length_toList, szl]; omega
        case he3 => rw [szl]; simp; omega
        refine ⟨rfl, wpH.up (wpAny_execs_nil ?_)⟩
        dsimp only
        refine wpH.up (wpAny_execs_nil ?_)
        refine fin _ _ frs₂ _ _ _ _ _ _ F10 N10 ?r2b ?r1b SU ?r3b
        case r1b => rw [if_neg (by decide), if_neg (by decide), if_pos rfl]
        case r2b =>
          intro p hp
          simp only [List.mem_append, List.mem_cons, List.not_mem_nil, or_false] at hp ⊢
          rcases hp with ((h | h) | h | h)
          all_goals simp [h]
        case r3b =>
          rw [take_snoc hcs]
          simpa using hc.append (.int (.int .nil))
  case done =>
    rintro m' led' h' tk' ⟨its, n, frs₂, rfl, SU, hm, hc⟩ hadr F3 N3
    dsimp only
    have F4 := fr_has (y := Str.ofString "result") (v := .ref lr) F3 hm
    clear F3 F1 N1
    refine wpH.up ?_
    k_steps
    obtain ⟨frs', Fh, SUh, Fsh, Nh, hlt⟩ := AT.home (s' := { s with heap := h', toks := tk' }) (new := [(lr, W.listOf its n)]) F4 SU N3 (fun q hq p hp => by rw [List.mem_singleton.mp hp]; exact hlr q hq)
    refine hret _ _ _ [(lr, W.listOf its n)] frs' Fh SUh Fsh Nh hlt ⟨lr, its, n, rfl, rfl, ?_⟩
    have hall : cells.take vs.toArray.size = cells := List.take_of_length_le (by rw [List.size_toArray, hvs.length, hcn]; exact Nat.le_refl _)
    rw [hall] at hc
    exact hc
end Mine
end
theorem Mine.fresh21 : True := by
  w_top off
  trivial
section
open PySem PySem.W PyProof.Rows
set_option maxRecDepth 100000
set_option maxHeartbeats 8000000
namespace Mine

def TellsB (w : World) (f : Addr) (Pre : Heap → Prop) (news : List (Addr × Obj)) (vs : List Value) (Post : List (Addr × Obj) → Value → Prop) : Prop :=
  ∀ (mean : ExcName → Option Value) (mg mb : Str → Option Value) (dp un : Nat) (gd : Option (List Code)) (cn : Str) (cs : Scope) (a : Addr) (ccd : Value) (cl : List (Str × Addr)) (outer : List Env) (A₀ : Around)
    (base h₀ : Heap) (L : Addr) (m : Str → Option Value) (s : Shared) (Q E : Value → Shared → Prop), Pre base →
   Below A₀ base outer h₀ → Fr h₀ L s.heap m → (Mine.hd.heap_39 w.params).In h₀ → News h₀ L s.heap news → Top Mine.hd.view_39 LO mean mg mb h₀ → cs.kind = .function →
   dp + 2 < recursionLimit → un + 40 < cLine →
   (∀ v h' tk' new, Fr h₀ L h' m → News h₀ L h' (new ++ news) → (∀ q ∈ news, ∀ p ∈ new, q.1 < p.1) → Post new v → Q v { s with heap := h', toks := tk' }) →
   wpAny (model PySem.Challenge.rw_wn0026_01.row.prog w) (ktrTop dp un gd cn cs L a ccd cl outer) (call (.ref f) vs) Q E s
theorem c_cells (w : World) (news) (sc : Addr) (svs : List Value) (sns : List Int) (hi : IntsAre svs sns) (hn : sns.length ≤ 63) :
   TellsB w 73 (fun b => b.IsList sc svs.toArray) news [.ref sc] (fun new v => ∃ l vs ns n, v = .ref l ∧ IntsAre vs ns ∧ ns.length = 11 ∧ new = [(l, listOf vs.toArray n)]) := by
  unfold TellsB
  intro mean mg mb dp un gd cn cs a ccd cl outer A₀ base h₀ L m s Q E hl B F X N T hk hd hu hret
  refine wpAny_call ?_
  have kf : Fill PySem.Challenge.rw_wn0026_01 Mine.hd.heap_39 := by (k_fill; exact trivial)
  clear kf
  k_dflt cell_enter
  k_with "pyIter ref" => k_state (fun pre cells => cells.length = 11) "cells"
  k_steps
  exact hret _ _ _ [(_, _)] (by assumption) (by assumption) (one_lt (allLt_of (by assumption))) ⟨_, _, _, _, rfl, kFacts, kInv, rfl⟩
end Mine
end
theorem Mine.fresh22 : True := by
  w_top off
  trivial
section
open PySem PySem.W PyProof.Rows
set_option maxRecDepth 100000
set_option maxHeartbeats 8000000
namespace Mine

def exN (c : Int) : List Int := if c % 6 = 0 then [0,1,2] else if c % 6 = 1 then [0,2,1] else if c % 6 = 2 then [1,0,2] else if c % 6 = 3 then [1,2,0] else if c % 6 = 4 then [2,0,1] else [2,1,0]
theorem c_exits (w : World) (news) (c : Int) (t : Tok) :
   Tells w 80 news [.int c t] (fun new v => ∃ l vs n, v = .ref l ∧ IntsAre vs (exN c) ∧ new = [(l, listOf vs.toArray n)]) := by
  have q : c.fmod 6 = c % 6 := Int.fmod_eq_emod_of_nonneg _ (by decide)
  have hc : c.fmod 6 = 0 ∨ c.fmod 6 = 1 ∨ c.fmod 6 = 2 ∨ c.fmod 6 = 3 ∨ c.fmod 6 = 4 ∨ c.fmod 6 = 5 := by omega
  unfold Tells
  intro mean mg mb dp un gd cn cs a ccd cl outer A₀ base h₀ L m s Q E B F X N T hk hd hu hret
  refine wpAny_call ?_
  have kf : Fill PySem.Challenge.rw_wn0026_01 Mine.hd.heap_39 := by (k_fill; exact trivial)
  clear kf
  k_dflt cell_enter
  k_steps
  rcases hc with e | e | e | e | e | e
  all_goals
    rw [e]
    k_steps
    have e' := q.symm.trans e
    rename News _ _ _ _ => NN
    refine hret _ _ _ [(_, _)] (by assumption) (news_one NN (by repeat (first | exact List.Mem.head _ | apply List.Mem.tail)) (fun p hp => by repeat (first | exact hp | apply List.Mem.tail))) (one_lt ?_) ⟨_, _, _, rfl, ?_, rfl⟩
    · first | (simp only [*]; done) | (exact allLt_of (by assumption)) | (simp_all; done) | (have hh : AllLt _ _ := by (first | assumption | (refine And.right (a := ?_) ?_)); exact hh)
    · simp only [exN, e']
      repeat constructor
end Mine
end
theorem Mine.fresh23 : True := by
  w_top off
  trivial
section
local macro_rules | `(tactic| omega) => `(tactic| omega (config := {}))
open PySem PySem.W PyProof.Rows
set_option maxRecDepth 100000
set_option maxHeartbeats 8000000

namespace Mine

theorem ite_max (y : Int) : (if 0 > y then 0 else y) = max y 0 := by
  by_cases h : 0 > y
  · rw [if_pos h]; exact (Int.max_eq_right (Int.le_of_lt h)).symm
  · rw [if_neg h]; exact (Int.max_eq_left (Int.not_lt.mp h)).symm
theorem ite_min (t : Int) : (if 3 < t then 3 else t) = min t 3 := by
  by_cases h : 3 < t
  · rw [if_pos h]; exact (Int.min_eq_right (Int.le_of_lt h)).symm
  · rw [if_neg h]; exact (Int.min_eq_left (Int.not_lt.mp h)).symm
theorem max_nat (y : Int) : (max y 0).toNat = y.toNat := by
  rw [← Int.ofNat_toNat]; rfl
theorem c_line (w : World) (news) (place taken : Int) (t1 t2 : Tok) (h1 : 0 ≤ place) (h2 : place < 9) (h3 : 0 ≤ taken) (h4 : taken < 29) :
   Tells w 87 news [.int place t1, .int taken t2] (fun new v => new = [] ∧ ∃ t, v = .str (lineN (place % 4 - taken).toNat (3 - min taken 3 - max (place % 4 - taken) 0).toNat) t) := by
  have q : place.fmod 4 = place % 4 := Int.fmod_eq_emod_of_nonneg _ (by decide)
  have l1 : (Str.ofString "\t").length = 1 := by decide
  unfold Tells
  intro mean mg mb dp un gd cn cs a ccd cl outer A₀ base h₀ L m s Q E B F X N T hk hd hu hret
  refine wpAny_call ?_
  have kf : Fill PySem.Challenge.rw_wn0026_01 Mine.hd.heap_39 := by (k_fill; exact trivial)
  clear kf
  k_dflt cell_enter
  k_steps
  (refine hret _ _ _ [] (by assumption) (by assumption) (fun _ _ _ h9 => nomatch h9) ?_)
  refine ⟨rfl, ⟨_, congrArg (fun z => Value.str z _) ?_⟩⟩
  rw [lineN_eq, ite_max, ite_min, q, max_nat]
end Mine
end
theorem Mine.fresh24 : True := by
  w_top off
  trivial
section
open PySem PySem.W PyProof.Rows
set_option maxRecDepth 100000
set_option maxHeartbeats 8000000
namespace Mine

def ov : Option (Str × Tok) → Value | none => .none | some q => .str q.1 q.2
theorem c_build (w : World) (news) (p : Addr) (sx xx : Option (Str × Tok)) (n : Nat) (hm : (p, ({ cls := .type "tuple", data := .seq #[ov sx, ov xx] n } : Obj)) ∈ news)
   (hs : ∀ q, sx = some q → q.1.length < 1000) (hx : ∀ q, xx = some q → q.1.length < 1000) :
   Tells w 66 news [.ref p] (fun new v => new = [] ∧ ∃ t, v = .str (match xx with | none => (match sx with | none => Str.ofString "C" | some q => q.1) | some q => (match sx with | none => Str.ofString "C" | some q => q.1) ++ Str.ofString "." ++ q.1) t) := by
  cases sx <;> cases xx
  all_goals
    unfold Tells
    intro mean mg mb dp un gd cn cs a ccd cl outer A₀ base h₀ L m s Q E B F X N T hk hd hu hret
    refine wpAny_call ?_
    have kf : Fill PySem.Challenge.rw_wn0026_01 Mine.hd.heap_39 := by (k_fill; exact trivial)
    clear kf
    simp only [ov] at hm
    have N₁ : News h₀ L s.heap (_ :: news) := fun q hq => (List.mem_cons.mp hq).elim (fun e => N q (e ▸ hm)) (N q)
    clear N hm
    first | replace hs := hs _ rfl | clear hs
    first | replace hx := hx _ rfl | clear hx
    dsimp only at *
    k_dflt cell_enter
    k_steps
    (refine hret _ _ _ [] (by assumption) ?_ (fun _ _ _ h9 => nomatch h9) ?_)
    · rename News _ _ _ _ => NN
      exact fun q hq => NN q (.tail _ hq)
    · exact ⟨rfl, ⟨_, rfl⟩⟩
end Mine
end
theorem Mine.fresh25 : True := by
  w_top off
  trivial
section
open PySem PySem.W PyProof.Rows
set_option maxRecDepth 100000
set_option maxHeartbeats 8000000
namespace Mine

section
variable {w : World} {f : Addr} {news : List (Addr × Obj)} {vs : List Value} {Post : List (Addr × Obj) → Value → Prop} {mean : ExcName → Option Value} {mg mb : Str → Option Value} {fa : Addr} {cdv : Value} {base h₀ : Heap} {L : Addr} {m : Str → Option Value} {s : Shared} {Q E : Value → Shared → Prop}
theorem lawKind : lawScope.kind = .function := rfl
theorem useB {Pre : Heap → Prop} (C : TellsB w f Pre news vs Post) (hp : Pre base) (K0 : Below callerA base [] h₀) (F : Fr h₀ L s.heap m) (X : (Mine.hd.heap_39 w.params).In h₀) (N : News h₀ L s.heap news) (T : Top Mine.hd.view_39 LO mean mg mb h₀)
   (hret : ∀ v h' tk' new, Fr h₀ L h' m → News h₀ L h' (new ++ news) → (∀ q ∈ news, ∀ p ∈ new, q.1 < p.1) → Post new v → Q v { s with heap := h', toks := tk' }) :
   wpAny (model PR w) (lawA L fa cdv) (call (.ref f) vs) Q E s :=
  C mean mg mb _ _ _ _ lawScope _ _ _ [] callerA base h₀ L m s Q E hp K0 F X N T lawKind (by decide) (by decide) hret
theorem useT (C : Tells w f news vs Post) (K0 : Below callerA base [] h₀) (F : Fr h₀ L s.heap m) (X : (Mine.hd.heap_39 w.params).In h₀) (N : News h₀ L s.heap news) (T : Top Mine.hd.view_39 LO mean mg mb h₀)
   (hret : ∀ v h' tk' new, Fr h₀ L h' m → News h₀ L h' (new ++ news) → (∀ q ∈ news, ∀ p ∈ new, q.1 < p.1) → Post new v → Q v { s with heap := h', toks := tk' }) :
   wpAny (model PR w) (lawA L fa cdv) (call (.ref f) vs) Q E s :=
  C mean mg mb _ _ _ _ lawScope _ _ _ [] callerA base h₀ L m s Q E K0 F X N T lawKind (by decide) (by decide) hret
theorem useF (C : TellsF w f news vs Post) (F : Fr h₀ L s.heap m) (X : (Mine.hd.heap_39 w.params).In h₀) (N : News h₀ L s.heap news) (T : Top Mine.hd.view_39 LO mean mg mb h₀)
   (hret : ∀ v h' tk' new, Fr h₀ L h' m → News h₀ L h' (new ++ news) → (∀ q ∈ news, ∀ p ∈ new, q.1 < p.1) → Post new v → Q v { s with heap := h', toks := tk' }) :
   wpAny (model PR w) (lawA L fa cdv) (call (.ref f) vs) Q E s :=
  C mean mg mb _ _ _ _ lawScope _ _ _ [] [] h₀ L m s Q E trivial F X (by rw [List.append_nil]; exact N) T lawKind (by decide) (by decide) (fun _ _ h => nomatch h)
    (fun v h' tk' new frs' F' SU _ N' hl hP => by
      cases frs' with
      | nil => rw [List.append_nil] at N'; exact hret v h' tk' new F' N' (fun q hq => hl q (by rw [List.append_nil]; exact hq)) hP
      | cons _ _ => exact False.elim SU)
theorem useHF (C : TellsHF w f news vs Post) (F : Fr h₀ L s.heap m) (X : (Mine.hd.heap_39 w.params).In h₀) (N : News h₀ L s.heap news) (T : Top Mine.hd.view_39 LO mean mg mb h₀)
   (hret : ∀ v h' tk' new, Fr h₀ L h' m → News h₀ L h' (new ++ news) → (∀ q ∈ news, ∀ p ∈ new, q.1 < p.1) → Post new v → Q v { s with heap := h', toks := tk' }) :
   wpH (model PR w) (lawA L fa cdv) (call (.ref f) vs) Q E s :=
  C mean mg mb _ _ _ _ lawScope _ _ _ [] [] h₀ L m s Q E trivial F X (by rw [List.append_nil]; exact N) T lawKind (by decide) (by decide) (fun _ _ h => nomatch h)
    (fun v h' tk' new frs' F' SU _ N' hl hP => by
      cases frs' with
      | nil => rw [List.append_nil] at N'; exact hret v h' tk' new F' N' (fun q hq => hl q (by rw [List.append_nil]; exact hq)) hP
      | cons _ _ => exact False.elim SU)
end
theorem st_cellF {M : Model} {A : Around} {E : Value → Shared → Prop} {s : Shared} {name : Str} {scope : Scope} {L a : Addr} {cd : Value} {h₀ : Heap} {m : Str → Option Value} {news : List (Addr × Obj)} {x : Str} {c : Addr} {o : Obj} {v₀ : Option Value} {v : Value} {g : Obj → List (Addr × Obj)} {Q : Unit → Shared → Prop} (F : Fr h₀ L s.heap m) (N : News h₀ L s.heap news)
    (hc : (cellsFrom (L + 1) scope.names []).lookup x = some c) (U : UpdF c o news g) (hd : o.data = .cell v₀)
    (h : ∀ h' o', Fr h₀ L h' m → News h₀ L h' (g o') → o'.data = .cell (some v) → Q () { s with heap := h' })
    (hk : scope.kind = .function := by rfl) (hl : (envOfC name scope L a cd).kindOf x = some .cell := by rfl) :
    wpAny M A (storeName (envOfC name scope L a cd) x v) Q E s := by
  obtain ⟨pre, post, e1, e2, a1, a2⟩ := U.split
  subst e1
  exact stCN F N hc hd a1 a2 (fun h' o' F' N' d' => h h' o' F' (by rw [e2]; exact N') d') hk hl
end Mine
end
theorem Mine.fresh26 : True := by
  w_top off
  trivial
section
open PySem PySem.W PyProof.Rows
set_option maxRecDepth 100000
set_option maxHeartbeats 8000000
namespace Mine

section
theorem wpH.callFun' {M : Model} {A : Around} {E : Value → Shared → Prop} {s : Shared} {env : Env} {h9 : Heap} {pos : Pos} {a : Addr} {o : Obj} {e : Expr} {rest : List Expr} {Q : Value → Shared → Prop} (_ : h9.get? a = some o) (hdat : ∃ fd, o.data = .func fd)
    (h : wpAny M A (spliced (backTo pos (starEach (e :: rest) env))) (fun vs s₁ => s₁.heap.get? a = some o ∧ wpH M A (PySem.call (.ref a) vs) Q E s₁) E s)
    (hlen : (backTo pos (starEach (e :: rest) env)).length ≤ 30)
    (he : starEach (e :: rest) env = (false, eval e env) :: starEach rest env := by rfl) (hplain : (backTo pos (starEach rest env)).any (·.1) = false := by rfl) :
    wpH M A (PySem.callWith pos (.ref a) [] (backTo pos (starEach (e :: rest) env)) []) Q E s := hdat.elim fun _ hd => wpH.callFun hd h hlen he hplain
theorem turn0 (w : World) (mean : ExcName → Option Value) (mg mb : Str → Option Value) (fa : Addr) (cdv : Value) (h₀ : Heap) (s : Shared) (m : Str → Option Value) (news : List (Addr × Obj)) (L : Addr) (oW : Obj) (win : Str) (tw : Tok) (tc : List Cell)
   (E : Value → Shared → Prop) (Q : Flow → Shared → Prop)
   (F : Fr h₀ L s.heap m) (X : (Mine.hd.heap_39 w.params).In h₀) (T : Top Mine.hd.view_39 LO mean mg mb h₀)
   (N : News h₀ L s.heap ((L + 1 + 1 + 1, oW) :: news)) (dW : oW.data = Data.cell (some (.str win tw)))
   (C : TellsHF w 44 ((L + 1 + 1 + 1, oW) :: news) [.str win tw] (fun new v => ∃ l its n, v = .ref l ∧ new = [(l, listOf its n)] ∧ Cells its.toList tc))
   (hret : ∀ (h' : Heap) (tk' : Nat) (ta : Addr) (its : Array Value) (n : Nat), Fr h₀ L h' (fun y => if y = Str.ofString "told" then some (.ref ta) else m y) →
      News h₀ L h' ((ta, listOf its n) :: (L + 1 + 1 + 1, oW) :: news) → (∀ p ∈ news, p.1 < ta) → L + 1 + 1 + 1 < ta → Cells its.toList tc → wpH (model PR w) (lawA L fa cdv) (execs (turnBody.drop 1) (lawEnv L fa cdv)) Q E { s with heap := h', toks := tk' }) :
   wpH (model PR w) (lawA L fa cdv) (execs turnBody (lawEnv L fa cdv)) Q E s := by
  have kf : Fill PySem.Challenge.rw_wn0026_01 Mine.hd.heap_39 := by (k_fill; exact trivial)
  clear kf
  refine wpH.execs_cons ?_
  refine wpH.Assign_Name ?_
  refine wpH.Call_Name ?_
  k_steps
  have e44 := F.keep _ _ (X 44 _ (by k_is))
  refine wpH.callFun' (a := 44) e44 ?hdat ?_ ?len
  case hdat => exact ⟨_, rfl⟩
  case len => exact Nat.le_of_ble_eq_true rfl
  k_steps
  refine useHF C F X N T ?_
  rintro v h1 tk1 new F1 N1 lt1 ⟨l, its, n, rfl, rfl, hc⟩
  clear F N
  k_steps
  dsimp only
  rename Fr _ _ _ _ => F2
  rename News _ _ _ _ => N2
  exact hret _ _ l its n F2 N2 (fun p hp => lt1 p (.tail _ hp) _ (.head _)) (lt1 _ (.head _) _ (.head _)) hc
end
end Mine
end
theorem Mine.fresh27 : True := by
  w_top off
  trivial
section
open PySem PySem.W PyProof.Rows
set_option maxRecDepth 100000
set_option maxHeartbeats 8000000
namespace Mine

open PySem.SeqAt
def CellIs : Value → Cell → Prop
  | .int k _, .I k' => k = k'
  | .str x _, .S x' => x = x'
  | _, _ => False
def cellEq : Cell → Cell → Bool
  | .I a, .I b => a == b
  | .S x, .S y => x == y
  | _, _ => false
def cellsEq : List Cell → List Cell → Bool
  | [], [] => true
  | a :: as, b :: bs => cellEq a b && cellsEq as bs
  | _, _ => false
theorem Cells.get : ∀ {vs : List Value} {cs : List Cell}, Cells vs cs → ∀ (i : Nat) (h : i < vs.length), CellIs vs[i] (cs.getD i (.I 0))
  | _, _, .nil, _, h => absurd h (Nat.not_lt_zero _)
  | _, _, .int _, 0, _ => rfl
  | _, _, .str _, 0, _ => rfl
  | _, _, .int h, i + 1, hi => by
    have := h.get i (Nat.lt_of_succ_lt_succ hi)
    simpa using this
  | _, _, .str h, i + 1, hi => by
    have := h.get i (Nat.lt_of_succ_lt_succ hi)
    simpa using this
theorem cellIs_cases {v : Value} {c : Cell} (h : CellIs v c) : (∃ a t, v = .int a t ∧ c = .I a) ∨ (∃ a t, v = .str a t ∧ c = .S a) := by
  cases c with
  | I k => cases v <;> first | (exact .inl ⟨_, _, rfl, congrArg Cell.I (Eq.symm h)⟩) | exact False.elim h
  | S k => cases v <;> first | (exact .inr ⟨_, _, rfl, congrArg Cell.S (Eq.symm h)⟩) | exact False.elim h
theorem eq_cell {A : Around} {s : Shared} {v v' : Value} {c c' : Cell} (h : CellIs v c) (h' : CellIs v' c') : EqAt A s v v' (cellEq c c') := by
  rcases cellIs_cases h with ⟨a, t, rfl, rfl⟩ | ⟨a, t, rfl, rfl⟩ <;> rcases cellIs_cases h' with ⟨b, u, rfl, rfl⟩ | ⟨b, u, rfl, rfl⟩
  · exact EqAt.int_int a t b u
  · exact EqAt.int_str a t b u
  · exact EqAt.str_int a t b u
  · exact EqAt.str_str a t b u
theorem cells_all : ∀ (cs ds : List Cell), cs.length = ds.length → (List.range cs.length).all (fun j => cellEq (cs.getD j (.I 0)) (ds.getD j (.I 0))) = cellsEq cs ds
  | [], [], _ => rfl
  | [], _ :: _, h => by cases h
  | _ :: _, [], h => by cases h
  | a :: as, b :: bs, h => by
    rw [List.length_cons, List.range_succ_eq_map, List.all_cons, List.all_map]
    show (cellEq a b && _) = (cellEq a b && cellsEq as bs)
    rw [← cells_all as bs (Nat.succ.inj h)]
    rfl
theorem cellsEq_iff : ∀ {cs ds : List Cell}, cellsEq cs ds = true ↔ cs = ds
  | [], [] => ⟨fun _ => rfl, fun _ => rfl⟩
  | [], _ :: _ => by simp [cellsEq]
  | _ :: _, [] => by simp [cellsEq]
  | a :: as, b :: bs => by
    show (cellEq a b && cellsEq as bs) = true ↔ _
    rw [Bool.and_eq_true, cellsEq_iff (cs := as) (ds := bs)]
    have : cellEq a b = true ↔ a = b := by
      cases a <;> cases b <;> simp [cellEq]
    rw [this]
    constructor
    · rintro ⟨rfl, rfl⟩; rfl
    · intro h; cases h; exact ⟨rfl, rfl⟩
/-- Two lists of cells compared. -/
theorem rc_cells {A : Around} {s : Shared} {l b : Addr} {xs ys : Array Value} {cs ds : List Cell} (hl : s.heap.IsList l xs) (hb : s.heap.IsList b ys) (cx : Cells xs.toList cs) (cy : Cells ys.toList ds) (hlen : cs.length = ds.length) (hu : A.units < cLine) :
    RcAt A s (.ref l) (.ref b) (cellsEq cs ds) := by
  have lx : xs.size = cs.length := by rw [← Array.length_toList]; exact cx.length
  have ly : ys.size = ds.length := by rw [← Array.length_toList]; exact cy.length
  have := RcAt.lists (A := A) (e := fun j => cellEq (cs.getD j (.I 0)) (ds.getD j (.I 0))) hl hb (by rw [lx, ly, hlen]) hu (fun j h1 h2 => by
    have a := cx.get j (by simpa using h1)
    have b := cy.get j (by simpa using h2)
    rw [Array.getElem_toList] at a b
    exact eq_cell a b)
  rw [lx, cells_all cs ds hlen] at this
  exact this
theorem ne_cells {prog : Program} {w : World} {A : Around} {E : Value → Shared → Prop} {s : Shared} {l b : Addr} {xs ys : Array Value} {cs ds : List Cell} {Q : Value → Shared → Prop} (hl : s.heap.IsList l xs) (hb : s.heap.IsList b ys) (cx : Cells xs.toList cs) (cy : Cells ys.toList ds) (hlen : cs.length = ds.length) (hu : A.units < cLine)
    (h : Q (.bool (!cellsEq cs ds)) s) : wpAny (model prog w) A (compareOp .NotEq (.ref l) (.ref b)) Q E s := by
  have lx : xs.size = cs.length := by rw [← Array.length_toList]; exact cx.length
  have ly : ys.size = ds.length := by rw [← Array.length_toList]; exact cy.length
  have := RcNeAt.lists (A := A) (e := fun j => cellEq (cs.getD j (.I 0)) (ds.getD j (.I 0))) hl hb (by rw [lx, ly, hlen]) hu (fun j h1 h2 => by
    have a := cx.get j (by simpa using h1)
    have b := cy.get j (by simpa using h2)
    rw [Array.getElem_toList] at a b
    exact eq_cell a b)
  rw [lx, cells_all cs ds hlen] at this
  exact this prog w E Q h
theorem eq_cells {prog : Program} {w : World} {A : Around} {E : Value → Shared → Prop} {s : Shared} {l b : Addr} {xs ys : Array Value} {cs ds : List Cell} {Q : Value → Shared → Prop} (hl : s.heap.IsList l xs) (hb : s.heap.IsList b ys) (cx : Cells xs.toList cs) (cy : Cells ys.toList ds) (hlen : cs.length = ds.length) (hu : A.units < cLine)
    (h : Q (.bool (cellsEq cs ds)) s) : wpAny (model prog w) A (compareOp .Eq (.ref l) (.ref b)) Q E s :=
  rc_cells hl hb cx cy hlen hu prog w E Q h
theorem cellsEq_self (cs : List Cell) : cellsEq cs cs = true := cellsEq_iff.mpr rfl
def signC (n1 n2 : Int) (d : Nat) : List Cell := if d = 0 then [.I 0, .S (Str.ofString "C")] else if d = 1 then [.I 100, .I n1] else [.I 100, .I n2]
theorem signC_len (n1 n2 : Int) (d : Nat) : (signC n1 n2 d).length = 2 := by
  unfold signC
  repeat' split
  all_goals rfl
theorem signC_inj {n1 n2 : Int} (hn : n1 ≠ n2) {a b : Nat} (ha : a < 3) (hb : b < 3) (h : signC n1 n2 a = signC n1 n2 b) : a = b := by
  have ha' : a = 0 ∨ a = 1 ∨ a = 2 := by omega
  have hb' : b = 0 ∨ b = 1 ∨ b = 2 := by omega
  rcases ha' with rfl | rfl | rfl <;> rcases hb' with rfl | rfl | rfl <;> first | rfl | (exfalso; simp [signC] at h; done) | (exfalso; simp [signC] at h; first | exact hn h | exact hn h.symm)
theorem index_signs {prog : Program} {w : World} {A : Around} {E : Value → Shared → Prop} {s : Shared} {sa s0 s1 s2 q : Addr} {sv0 sv1 sv2 qv : Array Value} {n1 n2 : Int} {a : Nat} {Q : Value → Shared → Prop}
    (hsa : s.heap.IsList sa #[.ref s0, .ref s1, .ref s2]) (h0 : s.heap.IsList s0 sv0) (h1 : s.heap.IsList s1 sv1) (h2 : s.heap.IsList s2 sv2) (hq : s.heap.IsList q qv)
    (c0 : Cells sv0.toList (signC n1 n2 0)) (c1 : Cells sv1.toList (signC n1 n2 1)) (c2 : Cells sv2.toList (signC n1 n2 2)) (cq : Cells qv.toList (signC n1 n2 a)) (ha : a < 3) (hn : n1 ≠ n2)
    (e01 : s0 ≠ s1) (e02 : s0 ≠ s2) (e12 : s1 ≠ s2) (q0 : s0 ≠ q) (q1 : s1 ≠ q) (q2 : s2 ≠ q) (hu : A.units + 9 < cLine)
    (h : Q (.int (a : Nat) s.toks) { s with toks := s.toks + 1 }) : wpAny (model prog w) A (call (.builtin "list.index") [.ref sa, .ref q]) Q E s := by
  obtain ⟨⟨cls, dd, data, sl⟩, ho, hc, n, hd⟩ := id hsa
  simp only at hc hd
  subst hc hd
  have key : ∀ (b : Nat) (x : Addr) (xv : Array Value) (A' : Around), b < 3 → s.heap.IsList x xv → Cells xv.toList (signC n1 n2 b) → x ≠ q → A'.units < cLine → EqAt A' s (.ref x) (.ref q) (decide (b = a)) := by
    intro b x xv A' hb hx cx hne hu'
    have r := rc_cells (A := A') hx hq cx cq (by rw [signC_len, signC_len]) hu'
    have e : cellsEq (signC n1 n2 b) (signC n1 n2 a) = decide (b = a) := by
      rw [Bool.eq_iff_iff, cellsEq_iff, decide_eq_true_iff]
      exact ⟨signC_inj hn hb ha, fun h => by rw [h]⟩
    rw [e] at r
    exact EqAt.of_refs hne r
  have hun : A.in1.units < cLine := by show A.units + 1 < cLine; omega
  have hs : (#[Value.ref s0, .ref s1, .ref s2] : Array Value)[a]? = some (.ref (if a = 0 then s0 else if a = 1 then s1 else s2)) := by
    have ha' : a = 0 ∨ a = 1 ∨ a = 2 := by omega
    rcases ha' with rfl | rfl | rfl <;> rfl
  refine call_meets PySem.F.slot_list_index ⟨_, ho, rfl⟩ PySem.F.entry_list_index (PySem.F.args_list_index_2 _ _)
    (list_indexAt sa #[.ref s0, .ref s1, .ref s2] n dd sl (.ref q) (fun v => match v with | .ref x => decide ((if x = s0 then 0 else if x = s1 then 1 else 2) = a) | _ => false) a (by simp; omega) (by omega) ?_ ?_) ⟨ho, ?_, h⟩
  · have ha' : a = 0 ∨ a = 1 ∨ a = 2 := by omega
    rcases ha' with rfl | rfl | rfl <;> simp [e01, e02, e12, Ne.symm e01, Ne.symm e02, Ne.symm e12]
  · intro m hm hlt
    have hm' : m = 0 ∨ m = 1 := by omega
    rcases hm' with rfl | rfl <;> simp [e01, e02, e12, Ne.symm e01, Ne.symm e02, Ne.symm e12] <;> omega
  · intro y hy
    have hy' : y = .ref s0 ∨ y = .ref s1 ∨ y = .ref s2 := by simpa using hy
    rcases hy' with rfl | rfl | rfl
    · simpa using key 0 s0 sv0 _ (by omega) h0 c0 q0 hun
    · simpa [Ne.symm e01] using key 1 s1 sv1 _ (by omega) h1 c1 q1 hun
    · simpa [Ne.symm e02, Ne.symm e12] using key 2 s2 sv2 _ (by omega) h2 c2 q2 hun
end Mine
end
theorem Mine.fresh28 : True := by
  w_top off
  trivial
section
open PySem PySem.W PyProof.Rows
set_option maxRecDepth 100000
set_option maxHeartbeats 8000000
namespace Mine

section
local macro_rules | `(tactic| walk_at "call builtin:list.index") => `(tactic| (with_reducible refine Mine.Hold.out ?_))
local macro_rules | `(tactic| walk_at "call builtin:list.append") => `(tactic| (with_reducible refine Mine.Hold.out ?_))
theorem Cells.take : ∀ {vs : List Value} {cs : List Cell}, Cells vs cs → ∀ n, Cells (vs.take n) (cs.take n)
  | _, _, .nil, n => by simpa using Cells.nil
  | _, _, .int h, 0 => .nil
  | _, _, .str h, 0 => .nil
  | _, _, .int h, n + 1 => .int (h.take n)
  | _, _, .str h, n + 1 => .str (h.take n)
theorem Cells.drop : ∀ {vs : List Value} {cs : List Cell}, Cells vs cs → ∀ n, Cells (vs.drop n) (cs.drop n)
  | _, _, .nil, n => by simpa using Cells.nil
  | _, _, .int h, 0 => .int h
  | _, _, .str h, 0 => .str h
  | _, _, .int h, n + 1 => h.drop n
  | _, _, .str h, n + 1 => h.drop n
theorem sign_take (n1 n2 : Int) (a b c : Nat) : (signC n1 n2 a ++ signC n1 n2 b ++ signC n1 n2 c).take 2 = signC n1 n2 a := by
  rw [List.append_assoc, List.take_append_of_le_length (Nat.le_of_eq (signC_len n1 n2 a).symm), List.take_of_length_le (Nat.le_of_eq (signC_len n1 n2 a))]
theorem sign_drop (n1 n2 : Int) (a b c : Nat) : ((signC n1 n2 a ++ signC n1 n2 b ++ signC n1 n2 c).drop 2).take 2 = signC n1 n2 b := by
  have e : (signC n1 n2 a ++ signC n1 n2 b ++ signC n1 n2 c).drop 2 = signC n1 n2 b ++ signC n1 n2 c := by
    rw [List.append_assoc]
    have := List.drop_left (l₁ := signC n1 n2 a) (l₂ := signC n1 n2 b ++ signC n1 n2 c)
    rwa [signC_len] at this
  rw [e, List.take_append_of_le_length (Nat.le_of_eq (signC_len n1 n2 b).symm), List.take_of_length_le (Nat.le_of_eq (signC_len n1 n2 b))]
theorem pick_first {its : Array Value} {n1 n2 : Int} {a b c : Nat} (h : Cells its.toList (signC n1 n2 a ++ signC n1 n2 b ++ signC n1 n2 c)) : Cells (slicePick its none (some 2) none).toList (signC n1 n2 a) := by
  show Cells (slicePick its none (some ((2 : Nat) : Int)) none).toList _
  rw [slicePick_upto', ← sign_take n1 n2 a b c]
  exact h.take 2
theorem pick_second {its : Array Value} {n1 n2 : Int} {a b c : Nat} (h : Cells its.toList (signC n1 n2 a ++ signC n1 n2 b ++ signC n1 n2 c)) : Cells (slicePick its (some 2) (some 4) none).toList (signC n1 n2 b) := by
  have hl : its.size = 6 := by rw [← Array.length_toList, h.length]; simp [signC_len]
  show Cells (slicePick its (some ((2 : Nat) : Int)) (some ((4 : Nat) : Int)) none).toList _
  rw [slicePick_run its 2 4 (by omega) (by omega), ← sign_drop n1 n2 a b c]
  exact (h.drop 2).take 2
theorem lawU (L fa : Addr) (cdv : Value) : (lawA L fa cdv).units + 9 < cLine := (by decide : 4 + 3 + 9 < cLine)
theorem news_lt {h₀ h : Heap} {L x : Addr} {o : Obj} {news : List (Addr × Obj)} (N : News h₀ L h news) (hm : (x, o) ∈ news) : x < h.objs.size := Heap.lt_size (N _ hm).1
theorem turn1 (w : World) (mean : ExcName → Option Value) (mg mb : Str → Option Value) (fa : Addr) (cdv : Value) (h₀ : Heap) (s : Shared) (m : Str → Option Value) (R : List (Addr × Obj)) (L : Addr)
   (ta wa pla sa s0 s1 s2 : Addr) (its wits plits sv0 sv1 sv2 : Array Value) (tn wn pn : Nat) (oS : Obj)
   (E : Value → Shared → Prop) (Q : Flow → Shared → Prop)
   (F : Fr h₀ L s.heap (fun y => if y = Str.ofString "told" then some (.ref ta) else if y = Str.ofString "walk" then some (.ref wa) else if y = Str.ofString "places" then some (.ref pla) else m y)) (X : (Mine.hd.heap_39 w.params).In h₀) (T : Top Mine.hd.view_39 LO mean mg mb h₀)
   (N : News h₀ L s.heap ((ta, listOf its tn) :: (wa, listOf wits wn) :: (pla, listOf plits pn) :: (L + 1 + 1, oS) :: (sa, listOf #[.ref s0, .ref s1, .ref s2] 0) :: (s0, listOf sv0 0) :: (s1, listOf sv1 0) :: (s2, listOf sv2 0) :: R)) (dS : oS.data = Data.cell (some (.ref sa)))
   (hw : ∀ p ∈ (L + 1 + 1, oS) :: (sa, listOf #[.ref s0, .ref s1, .ref s2] 0) :: (s0, listOf sv0 0) :: (s1, listOf sv1 0) :: (s2, listOf sv2 0) :: R, p.1 ≠ wa ∧ p.1 ≠ pla) (hta : ta ≠ wa) (htp : ta ≠ pla) (hwp : wa ≠ pla)
   (n1 n2 : Int) (a b c : Nat) (hc : Cells its.toList (signC n1 n2 a ++ signC n1 n2 b ++ signC n1 n2 c)) (c0 : Cells sv0.toList (signC n1 n2 0)) (c1 : Cells sv1.toList (signC n1 n2 1)) (c2 : Cells sv2.toList (signC n1 n2 2)) (ha : a < 3) (hb : b < 3) (hn : n1 ≠ n2) (e01 : s0 ≠ s1) (e02 : s0 ≠ s2) (e12 : s1 ≠ s2)
   (hsz1 : wits.size ≤ 100) (hsz2 : plits.size ≤ 100)
   (hret : ∀ (h' : Heap) (tk' : Nat) (t1 t2 : Tok), Fr h₀ L h' (fun y => if y = Str.ofString "place" then some (.int (3 * (a : Nat) + (b : Nat)) t1) else if y = Str.ofString "told" then some (.ref ta) else if y = Str.ofString "walk" then some (.ref wa) else if y = Str.ofString "places" then some (.ref pla) else m y) →
      News h₀ L h' ((pla, listOf (plits.push (.int (3 * (a : Nat) + (b : Nat)) t2)) (pn + 1)) :: (wa, listOf (wits.push (.ref ta)) (wn + 1)) :: (ta, listOf its tn) :: (L + 1 + 1, oS) :: (sa, listOf #[.ref s0, .ref s1, .ref s2] 0) :: (s0, listOf sv0 0) :: (s1, listOf sv1 0) :: (s2, listOf sv2 0) :: R) → Q .next { s with heap := h', toks := tk' }) :
   wpAny (model PR w) (lawA L fa cdv) (execs ((turnBody.drop 1).take 3) (lawEnv L fa cdv)) Q E s := by
  have kf : Fill PySem.Challenge.rw_wn0026_01 Mine.hd.heap_39 := by (k_fill; exact trivial)
  clear kf
  k_steps
  have hit : its.size = 6 := by rw [← Array.length_toList, hc.length]; simp [signC_len]
  refine append_K F N (.tail hta (.head (fun p hp => by
    rcases List.mem_cons.mp hp with rfl | hp
    · exact Ne.symm hwp
    · exact (hw p hp).1))) (fun h1 F1 N1 => ?_) (by rw [show sizeLine = 16777216 from rfl]; omega)
  clear F N
  k_steps
  rename Fr _ _ _ _ => F2
  rename News _ _ _ _ => N2
  refine index_signs (a := a) (isList_of N2 (by kcf_m)) (isList_of N2 (by kcf_m)) (isList_of N2 (by kcf_m)) (isList_of N2 (by kcf_m)) (isList_of (its := slicePick its none (some 2) none) (n := 0) N2 (.head _)) c0 c1 c2 (pick_first hc) ha hn e01 e02 e12 ?q0 ?q1 ?q2 ?hu ?_
  case q0 => exact Nat.ne_of_lt (Nat.lt_succ_of_lt (news_lt N1 (x := s0) (by kcf_m)))
  case q1 => exact Nat.ne_of_lt (Nat.lt_succ_of_lt (news_lt N1 (x := s1) (by kcf_m)))
  case q2 => exact Nat.ne_of_lt (Nat.lt_succ_of_lt (news_lt N1 (x := s2) (by kcf_m)))
  case hu => exact lawU L fa cdv
  clear F1 N1
  have N3 := N2
  k_steps
  rename Fr _ _ _ _ => F2
  rename News _ _ _ _ => N2
  refine index_signs (a := b) (isList_of N2 (by kcf_m)) (isList_of N2 (by kcf_m)) (isList_of N2 (by kcf_m)) (isList_of N2 (by kcf_m)) (isList_of (its := slicePick its (some 2) (some 4) none) (n := 0) N2 (.head _)) c0 c1 c2 (pick_second hc) hb hn e01 e02 e12 ?r0 ?r1 ?r2 ?ru ?_
  case r0 => exact Nat.ne_of_lt (Nat.lt_succ_of_lt (news_lt N3 (x := s0) (by kcf_m)))
  case r1 => exact Nat.ne_of_lt (Nat.lt_succ_of_lt (news_lt N3 (x := s1) (by kcf_m)))
  case r2 => exact Nat.ne_of_lt (Nat.lt_succ_of_lt (news_lt N3 (x := s2) (by kcf_m)))
  case ru => exact lawU L fa cdv
  clear N3
  k_steps
  rename Fr _ _ _ _ => F3
  rename News _ _ _ _ => N3
  have N4 : News h₀ L _ ((pla, listOf plits pn) :: (wa, listOf (wits.push (.ref ta)) (wn + 1)) :: (ta, listOf its tn) :: (L + 1 + 1, oS) :: (sa, listOf #[.ref s0, .ref s1, .ref s2] 0) :: (s0, listOf sv0 0) :: (s1, listOf sv1 0) :: (s2, listOf sv2 0) :: R) := news_drop N3 (by kcf_all)
  clear N3
  refine append_K F3 N4 (.head (fun p hp => by
    rcases List.mem_cons.mp hp with rfl | hp
    · exact hwp
    · rcases List.mem_cons.mp hp with rfl | hp
      · exact htp
      · exact (hw p hp).2)) (fun h5 F5 N5 => ?_) (by rw [show sizeLine = 16777216 from rfl]; omega)
  refine wpAny_execs_nil ?_
  exact hret _ _ _ _ F5 N5
end
end Mine
end
theorem Mine.fresh29 : True := by
  w_top off
  trivial
section
open PySem PySem.W PyProof.Rows
set_option maxRecDepth 100000
set_option maxHeartbeats 8000000
namespace Mine

def stripN (a b : Nat) : Str := if 0 < a then lineN (a - 1) b else lineN 0 (b - 1)
theorem c_strip_00 (w : World) (news) (t1 t2 : Tok) :
   Tells w 59 news [.str (Str.ofString "\t") t1, .int 1 t2] (fun new v => new = [] ∧ ∃ t, v = .str (Str.ofString "\t") t) := by
  have l1 : (Str.ofString "\t").length = 1 := by decide
  unfold Tells
  intro mean mg mb dp un gd cn cs a ccd cl outer A₀ base h₀ L m s Q E B F X N T hk hd hu hret
  refine wpAny_call ?_
  have kf : Fill PySem.Challenge.rw_wn0026_01 Mine.hd.heap_39 := by (k_fill; exact trivial)
  clear kf
  k_dflt cell_enter
  k_steps
  (refine hret _ _ _ [] (by assumption) (by assumption) (fun _ _ _ h9 => nomatch h9) ?_)
  exact ⟨rfl, ⟨_, congrArg (fun z => Value.str z _) (by decide +kernel)⟩⟩
theorem c_strip_01 (w : World) (news) (t1 t2 : Tok) :
   Tells w 59 news [.str (Str.ofString "\t ") t1, .int 1 t2] (fun new v => new = [] ∧ ∃ t, v = .str (Str.ofString "\t") t) := by
  have l1 : (Str.ofString "\t ").length = 2 := by decide
  unfold Tells
  intro mean mg mb dp un gd cn cs a ccd cl outer A₀ base h₀ L m s Q E B F X N T hk hd hu hret
  refine wpAny_call ?_
  have kf : Fill PySem.Challenge.rw_wn0026_01 Mine.hd.heap_39 := by (k_fill; exact trivial)
  clear kf
  k_dflt cell_enter
  k_steps
  (refine hret _ _ _ [] (by assumption) (by assumption) (fun _ _ _ h9 => nomatch h9) ?_)
  exact ⟨rfl, ⟨_, congrArg (fun z => Value.str z _) (by decide +kernel)⟩⟩
theorem c_strip_02 (w : World) (news) (t1 t2 : Tok) :
   Tells w 59 news [.str (Str.ofString "\t  ") t1, .int 1 t2] (fun new v => new = [] ∧ ∃ t, v = .str (Str.ofString "\t ") t) := by
  have l1 : (Str.ofString "\t  ").length = 3 := by decide
  unfold Tells
  intro mean mg mb dp un gd cn cs a ccd cl outer A₀ base h₀ L m s Q E B F X N T hk hd hu hret
  refine wpAny_call ?_
  have kf : Fill PySem.Challenge.rw_wn0026_01 Mine.hd.heap_39 := by (k_fill; exact trivial)
  clear kf
  k_dflt cell_enter
  k_steps
  (refine hret _ _ _ [] (by assumption) (by assumption) (fun _ _ _ h9 => nomatch h9) ?_)
  exact ⟨rfl, ⟨_, congrArg (fun z => Value.str z _) (by decide +kernel)⟩⟩
theorem c_strip_03 (w : World) (news) (t1 t2 : Tok) :
   Tells w 59 news [.str (Str.ofString "\t   ") t1, .int 1 t2] (fun new v => new = [] ∧ ∃ t, v = .str (Str.ofString "\t  ") t) := by
  have l1 : (Str.ofString "\t   ").length = 4 := by decide
  unfold Tells
  intro mean mg mb dp un gd cn cs a ccd cl outer A₀ base h₀ L m s Q E B F X N T hk hd hu hret
  refine wpAny_call ?_
  have kf : Fill PySem.Challenge.rw_wn0026_01 Mine.hd.heap_39 := by (k_fill; exact trivial)
  clear kf
  k_dflt cell_enter
  k_steps
  (refine hret _ _ _ [] (by assumption) (by assumption) (fun _ _ _ h9 => nomatch h9) ?_)
  exact ⟨rfl, ⟨_, congrArg (fun z => Value.str z _) (by decide +kernel)⟩⟩
theorem c_strip_10 (w : World) (news) (t1 t2 : Tok) :
   Tells w 59 news [.str (Str.ofString " \t") t1, .int 1 t2] (fun new v => new = [] ∧ ∃ t, v = .str (Str.ofString "\t") t) := by
  have l1 : (Str.ofString " \t").length = 2 := by decide
  unfold Tells
  intro mean mg mb dp un gd cn cs a ccd cl outer A₀ base h₀ L m s Q E B F X N T hk hd hu hret
  refine wpAny_call ?_
  have kf : Fill PySem.Challenge.rw_wn0026_01 Mine.hd.heap_39 := by (k_fill; exact trivial)
  clear kf
  k_dflt cell_enter
  k_steps
  (refine hret _ _ _ [] (by assumption) (by assumption) (fun _ _ _ h9 => nomatch h9) ?_)
  exact ⟨rfl, ⟨_, congrArg (fun z => Value.str z _) (by decide +kernel)⟩⟩
theorem c_strip_11 (w : World) (news) (t1 t2 : Tok) :
   Tells w 59 news [.str (Str.ofString " \t ") t1, .int 1 t2] (fun new v => new = [] ∧ ∃ t, v = .str (Str.ofString "\t ") t) := by
  have l1 : (Str.ofString " \t ").length = 3 := by decide
  unfold Tells
  intro mean mg mb dp un gd cn cs a ccd cl outer A₀ base h₀ L m s Q E B F X N T hk hd hu hret
  refine wpAny_call ?_
  have kf : Fill PySem.Challenge.rw_wn0026_01 Mine.hd.heap_39 := by (k_fill; exact trivial)
  clear kf
  k_dflt cell_enter
  k_steps
  (refine hret _ _ _ [] (by assumption) (by assumption) (fun _ _ _ h9 => nomatch h9) ?_)
  exact ⟨rfl, ⟨_, congrArg (fun z => Value.str z _) (by decide +kernel)⟩⟩
theorem c_strip_12 (w : World) (news) (t1 t2 : Tok) :
   Tells w 59 news [.str (Str.ofString " \t  ") t1, .int 1 t2] (fun new v => new = [] ∧ ∃ t, v = .str (Str.ofString "\t  ") t) := by
  have l1 : (Str.ofString " \t  ").length = 4 := by decide
  unfold Tells
  intro mean mg mb dp un gd cn cs a ccd cl outer A₀ base h₀ L m s Q E B F X N T hk hd hu hret
  refine wpAny_call ?_
  have kf : Fill PySem.Challenge.rw_wn0026_01 Mine.hd.heap_39 := by (k_fill; exact trivial)
  clear kf
  k_dflt cell_enter
  k_steps
  (refine hret _ _ _ [] (by assumption) (by assumption) (fun _ _ _ h9 => nomatch h9) ?_)
  exact ⟨rfl, ⟨_, congrArg (fun z => Value.str z _) (by decide +kernel)⟩⟩
theorem c_strip_20 (w : World) (news) (t1 t2 : Tok) :
   Tells w 59 news [.str (Str.ofString "  \t") t1, .int 1 t2] (fun new v => new = [] ∧ ∃ t, v = .str (Str.ofString " \t") t) := by
  have l1 : (Str.ofString "  \t").length = 3 := by decide
  unfold Tells
  intro mean mg mb dp un gd cn cs a ccd cl outer A₀ base h₀ L m s Q E B F X N T hk hd hu hret
  refine wpAny_call ?_
  have kf : Fill PySem.Challenge.rw_wn0026_01 Mine.hd.heap_39 := by (k_fill; exact trivial)
  clear kf
  k_dflt cell_enter
  k_steps
  (refine hret _ _ _ [] (by assumption) (by assumption) (fun _ _ _ h9 => nomatch h9) ?_)
  exact ⟨rfl, ⟨_, congrArg (fun z => Value.str z _) (by decide +kernel)⟩⟩
theorem c_strip_21 (w : World) (news) (t1 t2 : Tok) :
   Tells w 59 news [.str (Str.ofString "  \t ") t1, .int 1 t2] (fun new v => new = [] ∧ ∃ t, v = .str (Str.ofString " \t ") t) := by
  have l1 : (Str.ofString "  \t ").length = 4 := by decide
  unfold Tells
  intro mean mg mb dp un gd cn cs a ccd cl outer A₀ base h₀ L m s Q E B F X N T hk hd hu hret
  refine wpAny_call ?_
  have kf : Fill PySem.Challenge.rw_wn0026_01 Mine.hd.heap_39 := by (k_fill; exact trivial)
  clear kf
  k_dflt cell_enter
  k_steps
  (refine hret _ _ _ [] (by assumption) (by assumption) (fun _ _ _ h9 => nomatch h9) ?_)
  exact ⟨rfl, ⟨_, congrArg (fun z => Value.str z _) (by decide +kernel)⟩⟩
theorem c_strip_30 (w : World) (news) (t1 t2 : Tok) :
   Tells w 59 news [.str (Str.ofString "   \t") t1, .int 1 t2] (fun new v => new = [] ∧ ∃ t, v = .str (Str.ofString "  \t") t) := by
  have l1 : (Str.ofString "   \t").length = 4 := by decide
  unfold Tells
  intro mean mg mb dp un gd cn cs a ccd cl outer A₀ base h₀ L m s Q E B F X N T hk hd hu hret
  refine wpAny_call ?_
  have kf : Fill PySem.Challenge.rw_wn0026_01 Mine.hd.heap_39 := by (k_fill; exact trivial)
  clear kf
  k_dflt cell_enter
  k_steps
  (refine hret _ _ _ [] (by assumption) (by assumption) (fun _ _ _ h9 => nomatch h9) ?_)
  exact ⟨rfl, ⟨_, congrArg (fun z => Value.str z _) (by decide +kernel)⟩⟩
theorem c_strip (w : World) (news) (a b : Nat) (h : a + b ≤ 3) (t1 t2 : Tok) :
   Tells w 59 news [.str (lineN a b) t1, .int 1 t2] (fun new v => new = [] ∧ ∃ t, v = .str (stripN a b) t) := by
  have ha : a = 0 ∨ a = 1 ∨ a = 2 ∨ a = 3 := by omega
  have hb : b = 0 ∨ b = 1 ∨ b = 2 ∨ b = 3 := by omega
  rcases ha with rfl | rfl | rfl | rfl <;> rcases hb with rfl | rfl | rfl | rfl <;> first
    | (exfalso; omega)
    | (rw [show lineN 0 0 = Str.ofString "\t" by decide +kernel, show stripN 0 0 = Str.ofString "\t" by decide +kernel]; exact c_strip_00 w news t1 t2)
    | (rw [show lineN 0 1 = Str.ofString "\t " by decide +kernel, show stripN 0 1 = Str.ofString "\t" by decide +kernel]; exact c_strip_01 w news t1 t2)
    | (rw [show lineN 0 2 = Str.ofString "\t  " by decide +kernel, show stripN 0 2 = Str.ofString "\t " by decide +kernel]; exact c_strip_02 w news t1 t2)
    | (rw [show lineN 0 3 = Str.ofString "\t   " by decide +kernel, show stripN 0 3 = Str.ofString "\t  " by decide +kernel]; exact c_strip_03 w news t1 t2)
    | (rw [show lineN 1 0 = Str.ofString " \t" by decide +kernel, show stripN 1 0 = Str.ofString "\t" by decide +kernel]; exact c_strip_10 w news t1 t2)
    | (rw [show lineN 1 1 = Str.ofString " \t " by decide +kernel, show stripN 1 1 = Str.ofString "\t " by decide +kernel]; exact c_strip_11 w news t1 t2)
    | (rw [show lineN 1 2 = Str.ofString " \t  " by decide +kernel, show stripN 1 2 = Str.ofString "\t  " by decide +kernel]; exact c_strip_12 w news t1 t2)
    | (rw [show lineN 2 0 = Str.ofString "  \t" by decide +kernel, show stripN 2 0 = Str.ofString " \t" by decide +kernel]; exact c_strip_20 w news t1 t2)
    | (rw [show lineN 2 1 = Str.ofString "  \t " by decide +kernel, show stripN 2 1 = Str.ofString " \t " by decide +kernel]; exact c_strip_21 w news t1 t2)
    | (rw [show lineN 3 0 = Str.ofString "   \t" by decide +kernel, show stripN 3 0 = Str.ofString "  \t" by decide +kernel]; exact c_strip_30 w news t1 t2)
end Mine
end
theorem Mine.fresh30 : True := by
  w_top off
  trivial
section
open PySem PySem.W PyProof.Rows
set_option maxRecDepth 100000
set_option maxHeartbeats 8000000
namespace Mine

section
local macro_rules | `(tactic| walk_at "no key 2") => `(tactic| fail)
local macro_rules | `(tactic| walk_at "pyIter ref") => `(tactic| (with_reducible refine Mine.Hold.out ?_))
local macro_rules | `(tactic| walk_at "InvEndN") => `(tactic| (refine Mine.Hold.out ?_))
def refsOf (es : Nat → Addr) (n : Nat) : List Value := (List.range n).map fun i => .ref (es i)
theorem refsOf_get (es : Nat → Addr) {n i : Nat} (h : i < n) : (refsOf es n)[i]? = some (.ref (es i)) := by
  simp [refsOf, h]
def homeStep (rows : Nat → List Int) (p : Int) : Int := if p ≠ 0 then 3 * (rows p.toNat).getD 2 0 + p / 3 else p
def homeIt (rows : Nat → List Int) : Nat → Int → Int
  | 0, p => p
  | k + 1, p => homeStep rows (homeIt rows k p)
def homeB (rows : Nat → List Int) : Bool := (List.range 9).all fun p => homeIt rows 9 p == 0
theorem homeB_false {rows : Nat → List Int} {k : Int} (h0 : 0 ≤ k) (h9 : k < 9) (h : homeIt rows 9 k ≠ 0) : homeB rows = false := by
  unfold homeB
  rw [List.all_eq_false]
  refine ⟨k.toNat, by simp; omega, ?_⟩
  rw [Int.toNat_of_nonneg h0]
  simpa using h
theorem homeB_true {rows : Nat → List Int} (h : ∀ p ∈ rangeKs 0 9, homeIt rows 9 p = 0) : homeB rows = true := by
  unfold homeB
  rw [List.all_eq_true]
  intro p hp
  have := h p (List.mem_map.mpr ⟨p, hp, by simp⟩)
  simp [this]
theorem c_home (w : World) (news) (ea : Addr) (en : Nat) (es : Nat → Addr) (rows : Nat → List Int) (vs : Nat → List Value) (ns : Nat → Nat)
   (hrow : ∀ i, i < 9 → IntsAre (vs i) (rows i) ∧ (rows i).length = 3 ∧ (∀ x ∈ rows i, 0 ≤ x ∧ x < 3) ) 
   (he : (ea, listOf (refsOf es 9).toArray en) ∈ news) (hes : ∀ i < 9, (es i, listOf (vs i).toArray (ns i)) ∈ news) :
   Tells w 101 news [.ref ea] (fun new v => new = [] ∧ v = .bool (homeB rows)) := by
  unfold Tells
  intro mean mg mb dp un gd cn cs a ccd cl outer A₀ base h₀ L m s Q E B F X N T hk hd hu hret
  refine wpAny_call ?_
  have kf : Fill PySem.Challenge.rw_wn0026_01 Mine.hd.heap_39 := by (k_fill; exact trivial)
  clear kf
  k_dflt cell_enter
  k_steps
  unfold Hold
  rename IsRange _ _ _ _ _ _ _ _ => hr
  rename Fr _ _ _ _ => F1
  rename News _ _ _ _ => N1
  refine kst_range (n := 9) (σ := Unit) (fun _ => news) (fun _ => []) (fun _ => True) ["at", "step"] (fun pre _ => ∀ p ∈ pre, homeIt rows 9 p = 0) () rfl hr (by decide) (by decide) F1 N1 trivial (by simp) (by simp) ?_ ?_
  · intro c pre k t u h tk own hk1 hk2 hoff _ hP F2 N2
    clear hr F1 N1
    k_steps
    unfold Hold
    rename IsRange _ _ _ _ _ _ _ _ => hr
    rename Fr _ _ _ _ => F3
    rename News _ _ _ _ => N3
    refine kst_range (n := 9) (σ := Int × Tok) (fun _ => news ++ own) (fun c => [(Str.ofString "at", .int c.1 c.2)]) (fun _ => True) ["at"] (fun pre c => c.1 = homeIt rows pre.length k ∧ 0 ≤ c.1 ∧ c.1 < 9) (k, t) rfl hr (by decide) (by decide) F3 N3 trivial ?_ ?_ ?_ ?_
    · simp
    · refine ⟨rfl, ?_⟩; dsimp only; omega
    · intro c pre k1 t1 u1 h1 tk1 own1 hk3 hk4 hoff1 _ hP1 F4 N4
      clear hr F3 N3
      obtain ⟨ak, at1⟩ := c
      dsimp only at hP1 F4
      obtain ⟨hA, hA0, hA9⟩ := hP1
      have hstep : ∀ x : Int, x = homeStep rows ak → x = homeIt rows (pre ++ [k1]).length k := fun x e => by
        rw [List.length_append, List.length_singleton]; show x = homeStep rows (homeIt rows pre.length k); rw [← hA]; exact e
      k_steps
      · refine my_item (vs := refsOf es 9) (v := .ref (es ak.toNat)) (isList_of N4 (List.mem_append_left _ (List.mem_append_left _ he))) hA0 (by omega) (refsOf_get es (by omega)) ?_
        obtain ⟨hi1, hi2, hi3⟩ := hrow ak.toNat (by omega)
        have hmr := hes ak.toNat (by omega)
        obtain ⟨tq, hq⟩ := hi1.get 2 ((rows ak.toNat).getD 2 0) (by simp [hi2])
        have h3 : 2 < (rows ak.toNat).length := by omega
        have hgm : (rows ak.toNat).getD 2 0 ∈ rows ak.toNat := by
          rw [List.getD_eq_getElem?_getD, List.getElem?_eq_getElem h3]; exact List.getElem_mem _
        have hx := hi3 _ hgm
        k_steps
        unfold Hold
        rename Fr _ _ _ _ => F5
        rename News _ _ _ _ => N5
        have hne : ak ≠ 0 := by assumption
        refine kst_end (_, _) F5 N5 (fun p hp => List.mem_append_left _ hp) (fun p hp => List.mem_append_right _ hp) rfl trivial (by (dsimp only [kstB]; kst_all)) (by (dsimp only [kstB]; kst_same)) ⟨?_, ?_, ?_⟩
        all_goals rw [show (Int.toNat 2) = 2 from rfl, Int.fdiv_eq_ediv_of_nonneg _ (by decide : (0:Int) ≤ 3)]
        · exact hstep _ (by simp only [homeStep, if_pos hne])
        all_goals dsimp only
        all_goals omega
      · have e0 : ak = 0 := by assumption
        unfold Hold
        refine kst_end (ak, at1) F4 N4 (fun p hp => List.mem_append_left _ hp) (fun p hp => List.mem_append_right _ hp) rfl trivial (by (dsimp only [kstB]; kst_all)) (by (dsimp only [kstB]; kst_same)) ⟨?_, hA0, hA9⟩
        exact hstep ak (by simp [homeStep, e0])
    · intro c u1 h1 tk1 _ hP1 F4 N4
      clear hr F3 N3
      obtain ⟨ak, at1⟩ := c
      dsimp only at hP1 F4
      obtain ⟨hA, hA0, hA9⟩ := hP1
      rw [rangeKs_length] at hA
      k_steps
      · have e0 : ak ≠ 0 := by assumption
        rename News h₀ _ _ _ => NN
        refine hret _ _ _ [] (by assumption) (news_drop NN (fun p hp => List.mem_append_left _ hp)) (fun _ _ _ h9 => nomatch h9) ?_
        refine ⟨rfl, congrArg Value.bool ?_⟩
        exact (homeB_false (by omega) (by omega) (hA ▸ e0)).symm
      · have e0 : ak = 0 := by assumption
        unfold Hold
        refine kst_end () F4 N4 (fun p hp => List.mem_append_left _ hp) (fun p hp => List.mem_append_right _ hp) rfl trivial (by (dsimp only [kstB]; kst_all)) (by (dsimp only [kstB]; kst_same)) ?_
        intro p hp
        rcases List.mem_append.mp hp with hp | hp
        · exact hP p hp
        · rw [List.mem_singleton.mp hp, ← hA]; exact e0
  · intro c u h tk _ hP F2 N2
    k_steps
    (refine hret _ _ _ [] (by assumption) (by assumption) (fun _ _ _ h9 => nomatch h9) ?_)
    exact ⟨rfl, congrArg Value.bool (homeB_true hP).symm⟩
end
end Mine
end
theorem Mine.fresh31 : True := by
  w_top off
  trivial
section
open PySem PySem.W PyProof.Rows
set_option maxRecDepth 100000
set_option maxHeartbeats 8000000
namespace Mine

open PySem.Calls
section
variable {prog : Program} {w : World} {A : Around} {h₀ : Heap} {L : Addr} {m : Str → Option Value} {env : Env} {elt : Expr} {x : Str} {scope : Scope} {cl : List (Str × Addr)} {s : Shared} {S : List (Addr × Obj) → Prop} {P : Nat → Value → Prop} {Fin : List Value → List (Addr × Obj) → Prop}
/-- A comprehension by what holds of the items made so far and of the ledger. -/
theorem comp_inv {n : Nat} (I : Nat → List Value → List (Addr × Obj) → Prop) {news : List (Addr × Obj)}
    (turn : ∀ i v ys nw Ia oI C oC D m₂ h tk (E' : Value → Shared → Prop), i < n → P i v → I i ys nw → LCg.NsObj oC m₂ → m₂ x = some v → Fr h₀ L h m → News h₀ L h ((Ia, oI) :: (C, oC) :: (D, LCg.lst ys) :: nw) → LCg.Off3 Ia C D nw → ((@Ne Nat Ia C) ∧ (@Ne Nat Ia D) ∧ (@Ne Nat C D)) →
      wpAny (model prog w) A (eval elt (compEnvC scope cl C env)) (LCg.CompEnd h₀ L m { s with heap := h, toks := tk } Ia oI C oC D (LCg.lst ys) S (fun y nw' => I (i + 1) (ys ++ [y]) nw')) E' { s with heap := h, toks := tk })
    (fin : ∀ ys nw, I n ys nw → Fin ys nw) (h0 : I 0 [] news) : LCg.CompRest prog w A h₀ L m env elt x scope cl s S P Fin n 0 [] news := by
  have key : ∀ (j i : Nat) (ys : List Value) (nw : List (Addr × Obj)), i + j = n → I i ys nw → LCg.CompRest prog w A h₀ L m env elt x scope cl s S P Fin j i ys nw := by
    intro j
    induction j with
    | zero =>
      intro i ys nw hi hy
      have e : i = n := by omega
      subst e
      exact LCg.CompRest.zero (fin ys nw hy)
    | succ j ih =>
      intro i ys nw hi hy
      refine LCg.CompRest.succ ?_
      intro v Ia oI C oC D m₂ h tk E' hv hC hx F N off ne
      refine wpAny_mono (turn i v ys nw Ia oI C oC D m₂ h tk E' (by omega) hv hy hC hx F N off ne) (fun y s₂ hq => ?_) fun _ _ e => e
      obtain ⟨h', tk', nw', e, F', N', off', hS, hI⟩ := hq
      exact ⟨h', tk', nw', e, F', N', off', hS, ih (i + 1) _ _ (by omega) hI⟩
  exact key n 0 [] news (by omega) h0
end
end Mine
end
theorem Mine.fresh32 : True := by
  w_top off
  trivial
section
open PySem PySem.W PyProof.Rows
set_option maxRecDepth 100000
set_option maxHeartbeats 8000000
namespace Mine

section
local macro_rules | `(tactic| walk_at "no key 3") => `(tactic| fail)
local macro_rules | `(tactic| walk_at "call ref") => `(tactic| (with_reducible refine Mine.Hold.out ?_))
local macro_rules | `(tactic| walk_at "storeName") => `(tactic| ((with_reducible refine inCellsS ?_); (rename Fr _ _ _ _ => F'); (rename News _ _ _ _ => N'); (with_unfolding_all refine' st_cellF F' N' rfl ?k1 ?k2 ?_); (case k1 => k_updF); (case k2 => assumption); intro _ _ _ _ _))
local macro_rules | `(tactic| walk_at "CompSrc") => `(tactic| (with_reducible refine Mine.Hold.out ?_))
theorem lt_all {news : List (Addr × Obj)} {a : Addr} {o : Obj} (h : ∀ q ∈ news, ∀ p ∈ [(a, o)], q.1 < p.1) : AllLt a news := allLt_of (fun q hq => h q hq _ (.head _))
def num1 (cns : List Int) : Int := cns.getD 9 0 % 50
def num2 (cns : List Int) : Int := cns.getD 9 0 % 50 + 1 + cns.getD 10 0 % 50
theorem pre012 (w : World) (mean : ExcName → Option Value) (mg mb : Str → Option Value) (fa : Addr) (cdv : Value) (h₀ : Heap) (s : Shared) (base : Heap) (sc : Addr) (svs : List Value) (sns : List Int)
   (hl : base.IsList sc svs.toArray) (hi : IntsAre svs sns) (hn : sns.length ≤ 63)
   (E : Value → Shared → Prop) (Q : Flow → Shared → Prop) (o1 o2 o3 o4 o5 : Obj)
   (K0 : Below callerA base [] h₀) (F : Fr h₀ h₀.objs.size s.heap (fun y => if y = Str.ofString "script" then some (.ref sc) else none)) (X : (Mine.hd.heap_39 w.params).In h₀) (T : Top Mine.hd.view_39 LO mean mg mb h₀)
   (c1 : o1.data = Data.cell none) (c2 : o2.data = Data.cell none) (c3 : o3.data = Data.cell none) (c4 : o4.data = Data.cell none) (c5 : o5.data = Data.cell none)
   (N : News h₀ h₀.objs.size s.heap [(h₀.objs.size + 1 + 1 + 1 + 1 + 1, o5), (h₀.objs.size + 1 + 1 + 1 + 1, o4), (h₀.objs.size + 1 + 1 + 1, o3), (h₀.objs.size + 1 + 1, o2), (h₀.objs.size + 1, o1)])
   (hret : ∀ h' tk' ca cvs cns cn na s0 s1 s2 sa oN oS nvs sv0 sv1 sv2, IntsAre cvs cns → cns.length = 11 → Fr h₀ h₀.objs.size h' (fun y => if y = Str.ofString "cells" then some (.ref ca) else if y = Str.ofString "script" then some (.ref sc) else none) →
      News h₀ h₀.objs.size h' [(sa, listOf #[.ref s0, .ref s1, .ref s2] 0), (s2, listOf sv2 0), (s1, listOf sv1 0), (s0, listOf sv0 0), (na, listOf nvs 0), (ca, listOf cvs.toArray cn), (h₀.objs.size + 1 + 1 + 1 + 1 + 1, o5), (h₀.objs.size + 1 + 1 + 1 + 1, o4), (h₀.objs.size + 1 + 1 + 1, o3), (h₀.objs.size + 1 + 1, oS), (h₀.objs.size + 1, oN)] →
      oN.data = Data.cell (some (.ref na)) → oS.data = Data.cell (some (.ref sa)) → (∃ t1 t2 t3, nvs = #[.int 0 t1, .int (num1 cns) t2, .int (num2 cns) t3]) → (∃ t4 t5, sv0 = #[.int 0 t4, .str (Str.ofString "C") t5]) → (∃ t6 t7, sv1 = #[.int 100 t6, .int (num1 cns) t7]) → (∃ t8 t9, sv2 = #[.int 100 t8, .int (num2 cns) t9]) →
      @LT.lt Nat _ (h₀.objs.size + 5) ca → @LT.lt Nat _ ca na → @LT.lt Nat _ na s0 → @LT.lt Nat _ s0 s1 → @LT.lt Nat _ s1 s2 → @LT.lt Nat _ s2 sa → Q .next { s with heap := h', toks := tk' }) :
   wpAny (model PR w) (lawA h₀.objs.size fa cdv) (execs (lawBody.take 3) (lawEnv h₀.objs.size fa cdv)) Q E s := by
  have kf : Fill PySem.Challenge.rw_wn0026_01 Mine.hd.heap_39 := by (k_fill; exact trivial)
  clear kf
  k_steps
  refine useB (c_cells w _ sc svs sns hi hn) hl K0 F X N T ?_
  rintro v h1 tk1 new1 F1 N1 lt1 ⟨ca, cvs, cns, cn, rfl, hci, hcl, rfl⟩
  rw [List.singleton_append] at N1
  replace lt1 := lt_all lt1
  simp only [AllLt] at lt1
  clear F N
  k_steps
  rename Fr _ _ _ _ => FF
  rename News _ _ _ _ => NN
  refine wpAny_execs_nil ?_
  dsimp only
  refine hret _ _ ca cvs cns cn _ _ _ _ _ _ _ _ _ _ _ hci hcl FF NN ?a1 ?a2 ?a3 ?a4 ?a5 ?a6 ?b1 ?b2 ?b3 ?b4 ?b5 ?b6
  case a1 => assumption
  case a2 => assumption
  case a3 => simp only [num1, num2, Int.fmod_eq_emod_of_nonneg _ (by decide : (0 : Int) ≤ 50)]; exact ⟨_, _, _, rfl⟩
  case a4 => exact ⟨_, _, rfl⟩
  case a5 => simp only [num1, num2, Int.fmod_eq_emod_of_nonneg _ (by decide : (0 : Int) ≤ 50)]; exact ⟨_, _, rfl⟩
  case a6 => simp only [num1, num2, Int.fmod_eq_emod_of_nonneg _ (by decide : (0 : Int) ≤ 50)]; exact ⟨_, _, rfl⟩
  all_goals omega
end
end Mine
end
theorem Mine.fresh33 : True := by
  w_top off
  trivial
section
open PySem PySem.W PyProof.Rows
set_option maxRecDepth 100000
set_option maxHeartbeats 8000000
namespace Mine

section
local macro_rules | `(tactic| walk_at "call ref") => `(tactic| (with_reducible refine Mine.Hold.out ?_))
local macro_rules | `(tactic| walk_at "CompSrc") => `(tactic| (with_reducible refine Mine.Hold.out ?_))
theorem off1_mem {D : Addr} : ∀ {l : List (Addr × Obj)}, LCg.Off1 D l → ∀ p ∈ l, p.1 ≠ D
  | [], _, _, h => nomatch h
  | _ :: _, x, p, h => by
    rcases List.mem_cons.mp h with rfl | h
    · exact x.1
    · exact off1_mem x.2 p h
theorem refsOf_snoc (es : Nat → Addr) (l : Addr) (i : Nat) : refsOf es i ++ [.ref l] = refsOf (fun j => if j = i then l else es j) (i + 1) := by
  unfold refsOf
  rw [List.range_succ, List.map_append]
  congr 1
  · refine List.map_congr_left fun j hj => ?_
    have : j < i := List.mem_range.mp hj
    simp only [if_neg (Nat.ne_of_lt this)]
  · simp
theorem pre3 (w : World) (mean : ExcName → Option Value) (mg mb : Str → Option Value) (fa : Addr) (cdv : Value) (h₀ : Heap) (s : Shared) (base : Heap) (m : Str → Option Value) (news : List (Addr × Obj)) (ca : Addr) (cvs : List Value) (cns : List Int) (cn : Nat) (hci : IntsAre cvs cns) (hcl : cns.length = 11) (L : Addr)
   (E : Value → Shared → Prop) (Q : Flow → Shared → Prop)
   (K0 : Below callerA base [] h₀) (F : Fr h₀ L s.heap (fun y => if y = Str.ofString "cells" then some (.ref ca) else m y)) (X : (Mine.hd.heap_39 w.params).In h₀) (T : Top Mine.hd.view_39 LO mean mg mb h₀)
   (hm : (ca, listOf cvs.toArray cn) ∈ news)
   (N : News h₀ L s.heap news)
   (hret : ∀ (h' : Heap) (tk' : Nat) (ea : Addr) (en : Nat) (es : Nat → Addr) (vs : Nat → List Value) (ns : Nat → Nat) (nw : List (Addr × Obj)), Fr h₀ L h' (fun y => if y = Str.ofString "exits" then some (.ref ea) else if y = Str.ofString "cells" then some (.ref ca) else m y) →
      News h₀ L h' ((ea, listOf (refsOf es 9).toArray en) :: nw) → (∀ p ∈ nw, p.1 ≠ ea) → (∀ p ∈ nw, p ∈ news ∨ ∀ q ∈ news, q.1 < p.1) → (∀ p ∈ news, p ∈ nw) → (∀ i < 9, IntsAre (vs i) (exN (cns.getD i 0)) ∧ (es i, listOf (vs i).toArray (ns i)) ∈ nw) → Q .next { s with heap := h', toks := tk' }) :
   wpAny (model PR w) (lawA L fa cdv) (execs ((lawBody.drop 3).take 1) (lawEnv L fa cdv)) Q E s := by
  have kf : Fill PySem.Challenge.rw_wn0026_01 Mine.hd.heap_39 := by (k_fill; exact trivial)
  clear kf
  have N1 : News h₀ L s.heap ((ca, listOf cvs.toArray cn) :: news) := news_cons N hm
  k_steps
  rename Fr _ _ _ _ => F2
  rename News _ _ _ _ => N2
  rename IntsAre _ (List.take 9 cns) => hI2
  rename _ ∧ AllLt _ news => hlt
  rename List Value => ws
  rename Addr => D2
  have hws : ws.toArray.size = 9 := by
    rw [List.size_toArray, hI2.length, List.length_take]; omega
  refine LCg.CompSrc.ledger (by rfl) F2 N2 (.head _) ?sz ?_
  case sz => rw [hws]; decide
  intro g2
  refine comp_inv (fun i ys nw => ∃ (es : Nat → Addr) (vs : Nat → List Value) (ns : Nat → Nat), ys = refsOf es i ∧ (D2, listOf ws.toArray 0) ∈ nw ∧ (∀ p ∈ nw, p ∈ news ∨ ∀ q ∈ news, q.1 < p.1) ∧ (∀ p ∈ news, p ∈ nw) ∧ (∀ j < i, IntsAre (vs j) (exN (cns.getD j 0)) ∧ (es j, listOf (vs j).toArray (ns j)) ∈ nw)) ?turn ?fin ?zero
  case turn =>
    rintro i v ys nw Ia oI C oC D m2 h tk E' hi hv ⟨es, vs, ns, rfl, hn0, hn1, hn2, hn3⟩ hC hx F3 N3 off ne
    rw [hws] at hi
    obtain ⟨k, t, rfl, hk⟩ := IntsAre.at hI2 i v (by simpa using hv)
    have hk' : k = cns.getD i 0 := by
      rw [List.getElem?_take] at hk
      rw [List.getD_eq_getElem?_getD]
      rw [if_pos hi] at hk
      rw [hk]; rfl
    clear F2 N2
    k_steps
    refine useT (c_exits w _ k t) K0 F3 X N3 T ?_
    rintro v h1 tk1 new1 F4 N4 lt4 ⟨l, rvs, rn, rfl, hri, rfl⟩
    refine LCg.CompEnd.intro F4 N4 ((l, listOf rvs.toArray rn) :: nw) ?s1 ?s2 ?s3 ?s4
    case s1 =>
      intro p hp
      simp only [List.mem_cons, List.mem_append, List.singleton_append, List.not_mem_nil, or_false] at hp ⊢
      rcases hp with h | h | h | h | h <;> simp [h]
    case s2 => exact ⟨⟨Nat.ne_of_gt (lt4 _ (.head _) _ (.head _)), Nat.ne_of_gt (lt4 _ (.tail _ (.head _)) _ (.head _)), Nat.ne_of_gt (lt4 _ (.tail _ (.tail _ (.head _))) _ (.head _))⟩, off⟩
    case s3 => exact .inr ⟨_, .tail _ hn0, rfl, _, rfl⟩
    case s4 =>
      refine ⟨fun j => if j = i then l else es j, fun j => if j = i then rvs else vs j, fun j => if j = i then rn else ns j, ?_, .tail _ hn0, ?_, ?_, ?_⟩
      · exact refsOf_snoc es l i
      · intro p hp
        rcases List.mem_cons.mp hp with rfl | hp
        · exact .inr fun q hq => lt4 q (.tail _ (.tail _ (.tail _ (hn2 q hq)))) _ (.head _)
        · exact hn1 p hp
      · exact fun p hp => .tail _ (hn2 p hp)
      · intro j hj
        by_cases e : j = i
        · subst e
          simp only [if_true]
          exact ⟨hk' ▸ hri, .head _⟩
        · simp only [if_neg e]
          obtain ⟨a, b⟩ := hn3 j (by omega)
          exact ⟨a, .tail _ b⟩
  case zero =>
    refine ⟨fun _ => 0, fun _ => [], fun _ => 0, rfl, .head _, ?_, fun p hp => .tail _ (.tail _ hp), fun j hj => absurd hj (Nat.not_lt_zero _)⟩
    intro p hp
    rcases List.mem_cons.mp hp with rfl | hp
    · exact .inr fun q hq => allLt_mem hlt.2 q hq
    · rcases List.mem_cons.mp hp with rfl | hp
      · exact .inl hm
      · exact .inl hp
  case fin =>
    rintro ys nw ⟨es, vs, ns, rfl, hn0, hn1, hn2, hn3⟩
    rw [hws] at hn3 ⊢
    intro D3 h3 tk3 F5 N5 O5
    refine wpAny_execs_nil ?_
    dsimp only
    exact hret _ _ D3 9 es vs ns nw F5 N5 (off1_mem O5) hn1 hn2 hn3
end
end Mine
end
theorem Mine.fresh34 : True := by
  w_top off
  trivial
section
open PySem PySem.W PyProof.Rows
set_option maxRecDepth 100000
set_option maxHeartbeats 8000000
namespace Mine

section
local macro_rules | `(tactic| walk_at "no key 2") => `(tactic| fail)
local macro_rules | `(tactic| walk_at "call ref") => `(tactic| (with_reducible refine Mine.Hold.out ?_))
local macro_rules | `(tactic| walk_at "CompSrc") => `(tactic| (with_reducible refine Mine.Hold.out ?_))
def lineAt (k c : Nat) : Str := lineN (k % 4 - c) (3 - min c 3 - (k % 4 - c))
theorem min_three (n : Nat) : min (n : Int) 3 = ((min n 3 : Nat) : Int) := by
  rcases Nat.le_total n 3 with h | h
  · rw [Nat.min_eq_left h]; exact Int.min_eq_left (Int.ofNat_le.mpr h)
  · rw [Nat.min_eq_right h]; exact Int.min_eq_right (Int.ofNat_le.mpr h)
theorem line_behind (x n : Nat) : (3 - min ((n : Nat) : Int) 3 - max ((x : Int) - (n : Int)) 0).toNat = 3 - min n 3 - (x - n) := by
  rw [← Int.ofNat_toNat, Int.toNat_sub, min_three]
  generalize x - n = b
  generalize min n 3 = a
  show Int.toNat (((3 : Nat) : Int) - (a : Int) - (b : Int)) = 3 - a - b
  rw [Int.sub_sub, ← Int.natCast_add, Int.toNat_sub, Nat.sub_sub]
theorem line_line (k n : Nat) : lineN ((k : Int) % 4 - (n : Int)).toNat (3 - min (n : Int) 3 - max ((k : Int) % 4 - (n : Int)) 0).toNat = lineAt k n :=
  (congrArg (lineN _) (line_behind (k % 4) n)).trans (congrArg (fun z => lineN z _) (Int.toNat_sub (k % 4) n))
/-- The lines that have lost so many blanks. -/
def strsOf (xs : Nat → Str) (ts : Nat → Tok) (n : Nat) : List Value := (List.range n).map fun i => .str (xs i) (ts i)
theorem strsOf_snoc (xs : Nat → Str) (ts : Nat → Tok) (t : Tok) (i : Nat) : strsOf xs ts i ++ [.str (xs i) t] = strsOf xs (fun j => if j = i then t else ts j) (i + 1) := by
  unfold strsOf
  rw [List.range_succ, List.map_append]
  congr 1
  · refine List.map_congr_left fun j hj => ?_
    have : j < i := List.mem_range.mp hj
    simp only [if_neg (Nat.ne_of_lt this)]
  · simp
theorem pre4 (w : World) (mean : ExcName → Option Value) (mg mb : Str → Option Value) (fa : Addr) (cdv : Value) (h₀ : Heap) (s : Shared) (base : Heap) (m : Str → Option Value) (news : List (Addr × Obj)) (L : Addr)
   (E : Value → Shared → Prop) (Q : Flow → Shared → Prop)
   (K0 : Below callerA base [] h₀) (F : Fr h₀ L s.heap m) (X : (Mine.hd.heap_39 w.params).In h₀) (T : Top Mine.hd.view_39 LO mean mg mb h₀)
   (N : News h₀ L s.heap news)
   (hret : ∀ (h' : Heap) (tk' : Nat) (la : Addr) (ln : Nat) (ts : Nat → Tok), Fr h₀ L h' (fun y => if y = Str.ofString "lines" then some (.ref la) else m y) →
      News h₀ L h' ((la, listOf (strsOf (fun k => lineAt k 0) ts 9).toArray ln) :: news) → (∀ p ∈ news, p.1 ≠ la) → Q .next { s with heap := h', toks := tk' }) :
   wpAny (model PR w) (lawA L fa cdv) (execs ((lawBody.drop 4).take 1) (lawEnv L fa cdv)) Q E s := by
  have kf : Fill PySem.Challenge.rw_wn0026_01 Mine.hd.heap_39 := by (k_fill; exact trivial)
  clear kf
  k_steps
  rename Fr _ _ _ _ => F2
  rename News _ _ _ _ => N2
  rename IsRange _ _ _ _ _ _ _ _ => hR
  refine LCg.CompSrc.range (n := 9) (by rfl) F2 N2 hR (by decide) (by rfl) (by decide) ?_
  intro g2
  refine comp_inv (fun i ys nw => ∃ ts : Nat → Tok, ys = strsOf (fun k => lineAt k 0) ts i ∧ nw = news) ?turn ?fin ?zero
  case turn =>
    rintro i v ys nw Ia oI C oC D m2 h tk E' hi ⟨t, rfl⟩ ⟨ts, rfl, rfl⟩ hC hx F3 N3 off ne
    clear F2 N2 hR
    k_steps
    refine useT (c_line w _ _ _ _ _ (by omega) (by omega) (by omega) (by omega)) K0 F3 X N3 T ?_
    rintro v h1 tk1 new1 F4 N4 lt4 ⟨rfl, t4, rfl⟩
    refine LCg.CompEnd.intro F4 N4 nw (fun p hp => hp) off ?s3 ?s4
    case s3 => trivial
    case s4 =>
      refine ⟨fun j => if j = i then t4 else ts j, ?_, rfl⟩
      rw [← strsOf_snoc]
      have e : lineN ((0 + (i : Int)) % 4 - 0).toNat (3 - min (0 : Int) 3 - max ((0 + (i : Int)) % 4 - 0) 0).toNat = lineAt i 0 := by
        rw [Int.zero_add]; exact line_line i 0
      exact congrArg (fun z => strsOf (fun k => lineAt k 0) ts i ++ [Value.str z t4]) e
  case zero => exact ⟨fun _ => 0, rfl, rfl⟩
  case fin =>
    rintro ys nw ⟨ts, rfl, rfl⟩
    intro D3 h3 tk3 F5 N5 O5
    refine wpAny_execs_nil ?_
    dsimp only
    exact hret _ _ D3 9 ts F5 N5 (off1_mem O5)
end
end Mine
end
theorem Mine.fresh35 : True := by
  w_top off
  trivial
section
open PySem PySem.W PyProof.Rows
set_option maxRecDepth 100000
set_option maxHeartbeats 8000000
namespace Mine

section
local macro_rules | `(tactic| walk_at "no key 3") => `(tactic| fail)
local macro_rules | `(tactic| walk_at "call ref") => `(tactic| (with_reducible refine Mine.Hold.out ?_))
local macro_rules | `(tactic| walk_at "subscriptTail") => `(tactic| (with_reducible refine Mine.Hold.out ?_))
local macro_rules | `(tactic| walk_at "call builtin:list.count") => `(tactic| (with_reducible refine Mine.Hold.out ?_))
def over : List (Str × Value) → (Str → Option Value) → Str → Option Value
  | [], m => m
  | p :: r, m => fun z => if z = p.1 then some p.2 else over r m z
theorem over_self : ∀ {ps : List (Str × Value)} {m : Str → Option Value}, (∀ p ∈ ps, m p.1 = some p.2) → over ps m = m
  | [], _, _ => rfl
  | p :: r, m, h => by
    funext z
    show (if z = p.1 then some p.2 else over r m z) = m z
    rw [over_self (fun q hq => h q (.tail _ hq))]
    by_cases e : z = p.1
    · rw [if_pos e, e]; exact (h p (.head _)).symm
    · rw [if_neg e]
theorem fr_over {h₀ h : Heap} {L : Addr} {m : Str → Option Value} (F : Fr h₀ L h m) (ps : List (Str × Value)) (e : ∀ p ∈ ps, m p.1 = some p.2) : Fr h₀ L h (over ps m) := by
  rw [over_self e]; exact F
theorem strsOf_get (xs : Nat → Str) (ts : Nat → Tok) {n i : Nat} (h : i < n) : (strsOf xs ts n)[i]? = some (.str (xs i) (ts i)) := by
  simp [strsOf, h]
theorem lineN_len (a b : Nat) : (lineN a b).length = a + b + 1 := by
  simp [lineN, Str.length]; omega
theorem lineAt_len (k c : Nat) (h : c ≤ 4) : (lineAt k c).length = if c = 4 then 1 else 4 - c := by
  unfold lineAt; rw [lineN_len]
  have key : ∀ x < 4, ∀ c < 5, x - c + (3 - min c 3 - (x - c)) + 1 = if c = 4 then 1 else 4 - c := by decide
  exact key (k % 4) (Nat.mod_lt _ (by decide)) c (Nat.lt_succ_of_le h)
theorem strip_line (k c : Nat) (h : c ≤ 3) : stripN (k % 4 - c) (3 - min c 3 - (k % 4 - c)) = lineAt k (c + 1) := by
  have key : ∀ x < 4, ∀ c < 4, stripN (x - c) (3 - min c 3 - (x - c)) = lineN (x - (c + 1)) (3 - min (c + 1) 3 - (x - (c + 1))) := by decide +kernel
  exact key (k % 4) (Nat.mod_lt _ (by decide)) c (Nat.lt_succ_of_le h)
theorem line_end (k : Nat) : lineAt k (3 + 1) = lineAt k 3 := by
  have key : ∀ x < 4, lineN (x - (3 + 1)) (3 - min (3 + 1) 3 - (x - (3 + 1))) = lineN (x - 3) (3 - min 3 3 - (x - 3)) := by decide +kernel
  exact key (k % 4) (Nat.mod_lt _ (by decide))
theorem line_room (k : Nat) {c : Nat} (h : c ≤ 3) : k % 4 - c + (3 - min c 3 - (k % 4 - c)) ≤ 3 := by
  have key : ∀ x < 4, ∀ c < 4, x - c + (3 - min c 3 - (x - c)) ≤ 3 := by decide
  exact key (k % 4) (Nat.mod_lt _ (by decide)) c (Nat.lt_succ_of_le h)
theorem line_step {c : Nat} (h : c ≤ 3) (e : c ≠ 3) : (if c = 4 then 1 else 4 - c) ≠ if c + 1 = 4 then 1 else 4 - (c + 1) := by
  have key : ∀ c < 4, c ≠ 3 → (if c = 4 then 1 else 4 - c) ≠ if c + 1 = 4 then 1 else 4 - (c + 1) := by decide
  exact key c (Nat.lt_succ_of_le h) e
theorem turn2 (w : World) (mean : ExcName → Option Value) (mg mb : Str → Option Value) (fa : Addr) (cdv : Value) (h₀ : Heap) (s : Shared) (base : Heap) (m : Str → Option Value) (news : List (Addr × Obj)) (L : Addr)
   (la pla : Addr) (plits : List Value) (plns : List Int) (ln pn : Nat) (c : Nat → Nat) (ts : Nat → Tok) (p : Nat) (t1 : Tok)
   (E : Value → Shared → Prop) (Q : Flow → Shared → Prop)
   (K0 : Below callerA base [] h₀) (F : Fr h₀ L s.heap m) (X : (Mine.hd.heap_39 w.params).In h₀) (T : Top Mine.hd.view_39 LO mean mg mb h₀)
   (m1 : m (Str.ofString "place") = some (.int (p : Int) t1)) (m2 : m (Str.ofString "lines") = some (.ref la)) (m3 : m (Str.ofString "places") = some (.ref pla))
   (N : News h₀ L s.heap news) (hml : (la, listOf (strsOf (fun k => lineAt k (c k)) ts 9).toArray ln) ∈ news) (hmp : (pla, listOf plits.toArray pn) ∈ news) (hpi : IntsAre plits plns)
   (hp : p < 9) (hc : c p ≤ 3) (hcnt : plns.count (p : Int) = c p + 1)
   (hnext : ∀ (h' : Heap) (tk' : Nat) (t2 : Tok), c p < 3 → Fr h₀ L h' (fun y => if y = Str.ofString "shorter" then some (.str (lineAt p (c p + 1)) t2) else m y) → News h₀ L h' news → Q .next { s with heap := h', toks := tk' })
   (hbrk : ∀ (h' : Heap) (tk' : Nat) (t2 : Tok), c p = 3 → Fr h₀ L h' (fun y => if y = Str.ofString "shorter" then some (.str (lineAt p (c p + 1)) t2) else m y) → News h₀ L h' news → Q .brk { s with heap := h', toks := tk' }) :
   wpAny (model PR w) (lawA L fa cdv) (execs ((turnBody.drop 4).take 3) (lawEnv L fa cdv)) Q E s := by
  have kf : Fill PySem.Challenge.rw_wn0026_01 Mine.hd.heap_39 := by (k_fill; exact trivial)
  clear kf
  have hps : ∀ q ∈ [(Str.ofString "place", Value.int (p : Int) t1), (Str.ofString "lines", .ref la), (Str.ofString "places", .ref pla)], m q.1 = some q.2 := by
    intro q hq
    simp only [List.mem_cons, List.not_mem_nil, or_false] at hq
    rcases hq with rfl | rfl | rfl <;> assumption
  have F1 := fr_over F _ hps
  have N1 : News h₀ L s.heap ((la, listOf (strsOf (fun k => lineAt k (c k)) ts 9).toArray ln) :: (pla, listOf plits.toArray pn) :: news) := news_cons (news_cons N hmp) (.tail _ hml)
  clear F
  simp only [over] at F1
  k_steps
  refine my_item (vs := strsOf (fun k => lineAt k (c k)) ts 9) (v := .str (lineAt p (c p)) (ts p)) (isList_of N1 (.head _)) (by omega) (by omega) (strsOf_get (fun k => lineAt k (c k)) ts (by omega)) ?_
  k_steps
  refine useT (c_strip w _ (p % 4 - c p) (3 - min (c p) 3 - (p % 4 - c p)) (line_room p hc) (ts p) _) K0 F1 X N1 T ?_
  rintro v2 h2 tk2 new2 F2 N2 lt2 ⟨rfl, t2, hv2⟩
  rw [strip_line p (c p) hc] at hv2
  subst hv2
  rw [List.nil_append] at N2
  clear F1 N1 lt2
  k_steps
  rename Fr _ _ _ _ => F1
  rename News _ _ _ _ => N1
  refine count_list_ints (isList_of N1 (.tail _ (.head _))) hpi ?_
  rw [hcnt]
  k_steps
  refine useT (c_line w _ (p : Int) ((c p + 1 : Nat) : Int) t1 _ (by omega) (by omega) (by omega) (by omega)) K0 F1 X N1 T ?_
  rintro v3 h3 tk3 new3 F3 N3 lt3 ⟨rfl, t3, hv3⟩
  rw [line_line p (c p + 1)] at hv3
  subst hv3
  rw [List.nil_append] at N3
  clear F1 N1 lt3
  k_steps
  try exact absurd ‹(lineAt p (c p + 1) != lineAt p (c p + 1)) = true› (by simp)
  refine my_item (vs := strsOf (fun k => lineAt k (c k)) ts 9) (v := .str (lineAt p (c p)) (ts p)) (isList_of N3 (.head _)) (by omega) (by omega) (strsOf_get (fun k => lineAt k (c k)) ts (by omega)) ?_
  have em := over_self (m := m) hps
  simp only [over] at em
  have l1 := lineAt_len p (c p) (Nat.le_succ_of_le hc)
  have l2 := lineAt_len p (c p + 1) (Nat.succ_le_succ hc)
  have e3 : c p = 3 → lineAt p (c p + 1) = lineAt p (c p) := by
    intro h
    rw [h]
    exact line_end p
  k_steps
  · have hq : lineAt p (c p + 1) = lineAt p (c p) := eq_of_beq ‹(lineAt p (c p + 1) == lineAt p (c p)) = true›
    have h3 : c p = 3 := by
      rw [hq, l1] at l2
      by_cases e : c p = 3
      · exact e
      · exact absurd l2 (line_step hc e)
    have F4 := Eq.mp (congrArg (fun g : Str → Option Value => Fr h₀ L _ (fun y => if y = Str.ofString "shorter" then some (Value.str (lineAt p (c p + 1)) t2) else g y)) em) F3
    exact hbrk _ _ t2 h3 F4 (news_drop N3 (fun q hq => .tail _ (.tail _ hq)))
  · have h3 : c p < 3 := by
      have hne : c p ≠ 3 := fun e => by
        have h9 := ‹(lineAt p (c p + 1) == lineAt p (c p)) = false›
        rw [e3 e] at h9
        simp at h9
      omega
    have F4 := Eq.mp (congrArg (fun g : Str → Option Value => Fr h₀ L _ (fun y => if y = Str.ofString "shorter" then some (Value.str (lineAt p (c p + 1)) t2) else g y)) em) F3
    refine wpAny_execs_nil ?_
    exact hnext _ _ t2 h3 F4 (news_drop N3 (fun q hq => .tail _ (.tail _ hq)))
end
end Mine
end
theorem Mine.fresh36 : True := by
  w_top off
  trivial
section
open PySem PySem.W PyProof.Rows
set_option maxRecDepth 100000
set_option maxHeartbeats 8000000
namespace Mine

section
local macro_rules | `(tactic| walk_at "no key 4") => `(tactic| fail)
local macro_rules | `(tactic| walk_at "subscriptTail Name Name ref int") => `(tactic| (with_reducible refine Mine.Hold.out ?_))
local macro_rules | `(tactic| walk_at "subscriptTail Subscript BinOp ref int") => `(tactic| (with_reducible refine Mine.Hold.out ?_))
local macro_rules | `(tactic| walk_at "binaryOp Add ref ref") => `(tactic| (with_reducible refine Mine.Hold.out ?_))
local macro_rules | `(tactic| walk_at "call builtin:list.append") => `(tactic| (with_reducible refine Mine.Hold.out ?_))
theorem strsOf_set (xs xs' : Nat → Str) (ts : Nat → Tok) (t : Tok) {n p : Nat} (hp : p < n) (hx : ∀ k, k ≠ p → xs' k = xs k) : (strsOf xs ts n).take p ++ [Value.str (xs' p) t] ++ (strsOf xs ts n).drop (p + 1) = strsOf xs' (fun k => if k = p then t else ts k) n := by
  have hl : (strsOf xs ts n).length = n := by simp [strsOf]
  have e : (strsOf xs ts n).take p ++ [Value.str (xs' p) t] ++ (strsOf xs ts n).drop (p + 1) = (strsOf xs ts n).set p (Value.str (xs' p) t) := by
    rw [List.set_eq_take_append_cons_drop, if_pos (by omega), List.append_assoc, List.singleton_append]
  rw [e]
  apply List.ext_getElem (by simp [strsOf])
  intro i h1 h2
  rw [List.getElem_set]
  by_cases q : p = i
  · subst q; simp [strsOf]
  · rw [if_neg q]; simp [strsOf, Ne.symm q, hx i (Ne.symm q)]
theorem turn3 (w : World) (mean : ExcName → Option Value) (mg mb : Str → Option Value) (fa : Addr) (cdv : Value) (h₀ : Heap) (s : Shared) (m : Str → Option Value) (news : List (Addr × Obj)) (L : Addr)
   (la ea pa : Addr) (pits : List Value) (ln en pn : Nat) (c : Nat → Nat) (ts : Nat → Tok) (p : Nat) (t1 t2 : Tok) (oP : Obj) (es : Nat → Addr) (rows : Nat → List Int) (vs : Nat → List Value) (ns : Nat → Nat)
   (E : Value → Shared → Prop) (Q : Flow → Shared → Prop)
   (F : Fr h₀ L s.heap m) (X : (Mine.hd.heap_39 w.params).In h₀) (T : Top Mine.hd.view_39 LO mean mg mb h₀)
   (m1 : m (Str.ofString "place") = some (.int (p : Int) t1)) (m2 : m (Str.ofString "lines") = some (.ref la)) (m3 : m (Str.ofString "exits") = some (.ref ea)) (m4 : m (Str.ofString "shorter") = some (.str (lineAt p (c p + 1)) t2))
   (N : News h₀ L s.heap ((pa, listOf pits.toArray pn) :: news)) (hap : ∀ q ∈ news, q.1 ≠ pa) (hml : (la, listOf (strsOf (fun k => lineAt k (c k)) ts 9).toArray ln) ∈ news) (hme : (ea, listOf (refsOf es 9).toArray en) ∈ news) (hes : ∀ i < 9, (es i, listOf (vs i).toArray (ns i)) ∈ news)
   (hrow : ∀ i, i < 9 → IntsAre (vs i) (rows i) ∧ (rows i).length = 3 ∧ (∀ x ∈ rows i, 0 ≤ x ∧ x < 3)) (hmP : (L + 1 + 1 + 1 + 1, oP) ∈ news) (dP : oP.data = Data.cell (some (.ref pa)))
   (hp : p < 9) (hc : c p < 3) (hpl : pits.length ≤ 100)
   (hret : ∀ (h' : Heap) (tk' : Nat) (t3 t4 : Tok) (la' : Addr) (ln' : Nat) (ts' : Nat → Tok), Fr h₀ L h' (fun y => if y = Str.ofString "spelled" then some .none else if y = Str.ofString "digit" then some (.int ((rows p).getD (c p) 0) t3) else if y = Str.ofString "lines" then some (.ref la') else m y) →
      News h₀ L h' ((pa, listOf (pits ++ [Value.int ((rows p).getD (c p) 0) t4]).toArray (pn + 1)) :: (la', listOf (strsOf (fun k => lineAt k (if k = p then c k + 1 else c k)) ts' 9).toArray ln') :: news) → (∀ q ∈ news, q.1 < la') → Q .next { s with heap := h', toks := tk' }) :
   wpAny (model PR w) (lawA L fa cdv) (execs ((turnBody.drop 7).take 4) (lawEnv L fa cdv)) Q E s := by
  have kf : Fill PySem.Challenge.rw_wn0026_01 Mine.hd.heap_39 := by (k_fill; exact trivial)
  clear kf
  have hps : ∀ q ∈ [(Str.ofString "place", Value.int (p : Int) t1), (Str.ofString "lines", .ref la), (Str.ofString "exits", .ref ea), (Str.ofString "shorter", .str (lineAt p (c p + 1)) t2)], m q.1 = some q.2 := by
    intro q hq
    simp only [List.mem_cons, List.not_mem_nil, or_false] at hq
    rcases hq with rfl | rfl | rfl | rfl <;> assumption
  have F1 := fr_over F _ hps
  have l2 := lineAt_len p (c p + 1) (by omega)
  rw [if_neg (by omega)] at l2
  have N1 : News h₀ L s.heap ((la, listOf (strsOf (fun k => lineAt k (c k)) ts 9).toArray ln) :: (ea, listOf (refsOf es 9).toArray en) :: (L + 1 + 1 + 1 + 1, oP) :: (pa, listOf pits.toArray pn) :: news) := news_cons (news_cons (news_cons N (.tail _ hmP)) (.tail _ (.tail _ hme))) (.tail _ (.tail _ (.tail _ hml)))
  have hls : (strsOf (fun k => lineAt k (c k)) ts 9).length = 9 := by simp [strsOf]
  clear F
  simp only [over] at F1
  k_steps
  rename Fr _ _ _ _ => F2
  rename News _ _ _ _ => N2
  have e1 : (slicePick (strsOf (fun k => lineAt k (c k)) ts 9).toArray none (some (p : Int)) none) = ((strsOf (fun k => lineAt k (c k)) ts 9).take p).toArray := slicePick_upto' _ p
  have e2 : (slicePick (strsOf (fun k => lineAt k (c k)) ts 9).toArray (some ((p : Int) + 1)) none none) = ((strsOf (fun k => lineAt k (c k)) ts 9).drop (p + 1)).toArray := slicePick_from' _ (p + 1)
  refine kmk_add_lit (zs := (strsOf (fun k => lineAt k (c k)) ts 9).take p ++ [Value.str (lineAt p (c p + 1)) t2]) F2 N2 (isList_of N2 (.tail _ (.head _))) (isList_of N2 (.head _)) (by rw [e1]) (fun D1 h1 F3 N3 lt3 => ?_) ?sz1
  case sz1 => rw [e1, show sizeLine = 16777216 from rfl]; simp [strsOf]; omega
  clear F2 N2
  k_steps
  rename Fr _ _ _ _ => F2
  rename News _ _ _ _ => N2
  refine kmk_add_lit (zs := strsOf (fun k => lineAt k (if k = p then c k + 1 else c k)) (fun k => if k = p then t2 else ts k) 9) F2 N2 (isList_of (n := 0) N2 (.tail _ (.head _))) (isList_of (n := 0) N2 (.head _)) ?ez (fun D2 h2 F4 N4 lt4 => ?_) ?sz2
  case ez =>
    rw [e2]
    have := strsOf_set (fun k => lineAt k (c k)) (fun k => lineAt k (if k = p then c k + 1 else c k)) ts t2 (n := 9) (p := p) hp (fun k hk => by simp [hk])
    simpa using this
  case sz2 => rw [e2, show sizeLine = 16777216 from rfl]; simp [strsOf]; omega
  clear F2 N2
  k_steps
  rename Fr _ _ _ _ => F2
  rename News _ _ _ _ => N2
  have hlt5 : ∀ q ∈ news, q.1 < D2 := fun q hq => lt4 q (by repeat (first | exact hq | apply List.Mem.tail))
  have hlt6 : pa < D2 := lt4 (pa, listOf pits.toArray pn) (by kcf_m)
  have N5 : News h₀ L _ ((D2, listOf (strsOf (fun k => lineAt k (if k = p then c k + 1 else c k)) (fun k => if k = p then t2 else ts k) 9).toArray 0) :: (ea, listOf (refsOf es 9).toArray en) :: (L + 1 + 1 + 1 + 1, oP) :: (pa, listOf pits.toArray pn) :: news) := news_drop N2 (by kcf_all)
  clear N2 lt4 lt3
  refine my_item (vs := refsOf es 9) (v := .ref (es p)) (isList_of N5 (.tail _ (.head _))) (by omega) (by omega) (refsOf_get es (by omega)) ?_
  obtain ⟨hi1, hi2, hi3⟩ := hrow p hp
  k_steps
  rename Fr _ _ _ _ => F2
  rename News _ _ _ _ => N2
  rw [show (3 - ((lineAt p (c p + 1)).length : Int)) = ((c p : Nat) : Int) by rw [l2]; omega]
  obtain ⟨tq, hq⟩ := hi1.get (c p) ((rows p).getD (c p) 0) (by
    have h3 : c p < (rows p).length := by omega
    rw [List.getD_eq_getElem?_getD, List.getElem?_eq_getElem h3]; rfl)
  refine my_item (vs := vs p) (v := .int ((rows p).getD (c p) 0) tq) (isList_of N2 (.tail _ (.tail _ (.tail _ (.tail _ (hes p hp)))))) (by omega) (by omega) hq ?_
  k_steps
  rename Fr _ _ _ _ => F2
  rename News _ _ _ _ => N2
  have N6 : News h₀ L _ ((pa, listOf pits.toArray pn) :: (D2, listOf (strsOf (fun k => lineAt k (if k = p then c k + 1 else c k)) (fun k => if k = p then t2 else ts k) 9).toArray 0) :: news) := news_drop N2 (by kcf_all)
  clear N2
  refine append_K F2 N6 (.head (fun q hq => by
    rcases List.mem_cons.mp hq with rfl | hq
    · exact Nat.ne_of_gt hlt6
    · exact hap q hq)) (fun h5 F5 N5 => ?_) (by rw [show sizeLine = 16777216 from rfl]; simp; omega)
  rw [List.push_toArray] at N5
  clear F2 N6
  k_steps
  rename Fr _ _ _ _ => F2
  rename News _ _ _ _ => N2
  refine wpAny_execs_nil ?_
  dsimp only
  have em := over_self (m := m) hps
  simp only [over] at em
  have F4 := Eq.mp (congrArg (fun g : Str → Option Value => Fr h₀ L _ (fun y => if y = Str.ofString "spelled" then some .none else if y = Str.ofString "digit" then some (.int ((rows p).getD (c p) 0) tq) else if y = Str.ofString "lines" then some (.ref D2) else g y)) em) F2
  exact hret _ _ tq tq D2 0 _ F4 N2 hlt5
end
end Mine
end
theorem Mine.fresh37 : True := by
  w_top off
  trivial
section
open PySem PySem.W PyProof.Rows
set_option maxRecDepth 100000
set_option maxHeartbeats 8000000
namespace Mine

section
local macro_rules | `(tactic| walk_at "pyIter ref") => `(tactic| (with_reducible refine Mine.Hold.out ?_))
local macro_rules | `(tactic| walk_at "InvEndN") => `(tactic| (refine Mine.Hold.out ?_))
def win4 (past : List Int) (i : Nat) : List Int := (past.drop i).take 4
def plainB (past : List Int) (born turn : Int) : Bool := (List.range (turn + 1 - born).toNat).any fun i => !(win4 past (born.toNat + i)).any fun x => x == 0
def signS (k : Int) : Str := if k % 3 = 0 then Str.ofString "" else if k % 3 = 1 then Str.ofString "0" else Str.ofString "+0"
def intS (n : Int) : Str := Str.ofString (toString n)
def fieldS (past : List Int) (born turn : Int) (nums : List Int) : Str :=
  let d := past.getD (born + 3).toNat 0
  if d = 0 then Str.ofString "C" else if plainB past born turn then intS (nums.getD d.toNat 0) else signS born ++ intS (nums.getD d.toNat 0)
theorem win_eq {past : List Int} {k : Int} (h0 : 0 ≤ k) (h : k + 4 ≤ past.length) : List.take (min (k + 4).toNat past.length - k.toNat) (List.drop k.toNat past) = win4 past k.toNat := by
  unfold win4
  congr 1
  omega
theorem small_one {a b : Int} (h1 : 0 ≤ a) (h2 : a < 1000) (h3 : 0 ≤ b) (h4 : b < 1000) : Builtin.Range.small a b 1 = true := by
  have h5 := rangeSize_one a b
  unfold Builtin.Range.small Builtin.Range.rangeFitsLong
  rw [h5]
  by_cases hab : a < b
  · rw [if_pos hab]; simp; omega
  · rw [if_neg hab]; simp; omega
theorem plainB_true {past : List Int} {born turn : Int} {i : Nat} (hi : i < (turn + 1 - born).toNat) (h : ((win4 past (born.toNat + i)).any fun x => x == 0) = false) : plainB past born turn = true := by
  unfold plainB
  rw [List.any_eq_true]
  exact ⟨i, List.mem_range.mpr hi, by rw [h]; rfl⟩
theorem plainB_false {past : List Int} {born turn : Int} (h : ∀ i, i < (turn + 1 - born).toNat → ((win4 past (born.toNat + i)).any fun x => x == 0) = true) : plainB past born turn = false := by
  unfold plainB
  rw [List.any_eq_false]
  intro i hi
  rw [h i (List.mem_range.mp hi)]; decide
theorem c_field (w : World) (news) (pa na : Addr) (pvs nvs : List Value) (past nums : List Int) (pn nn : Nat) (born turn : Int) (t1 t2 : Tok)
   (hp : (pa, listOf pvs.toArray pn) ∈ news) (hn : (na, listOf nvs.toArray nn) ∈ news) (hpi : IntsAre pvs past) (hni : IntsAre nvs nums)
   (hpl : (past.length : Int) = turn + 4) (hnl : nums.length = 3) (hp0 : ∀ i, i < 3 → past.getD i 0 = 0) (hpb : ∀ x ∈ past, 0 ≤ x ∧ x < 3) (hnb : ∀ x ∈ nums, 0 ≤ x ∧ x < 100)
   (ht : 0 ≤ turn ∧ turn < 28) (hb : turn - 2 ≤ born ∧ born ≤ turn) :
   Tells w 94 news [.ref pa, .int born t1, .int turn t2, .ref na] (fun new v => new = [] ∧ ∃ t, v = .str (fieldS past born turn nums) t) := by
  unfold Tells
  intro mean mg mb dp un gd cn cs a ccd cl outer A₀ base h₀ L m s Q E B F X N T hk hd hu hret
  replace N := news_cons (news_cons N hp) (List.mem_cons_of_mem _ hn)
  refine wpAny_call ?_
  have kf : Fill PySem.Challenge.rw_wn0026_01 Mine.hd.heap_39 := by (k_fill; exact trivial)
  clear kf
  k_dflt cell_enter
  k_steps
  · have hd0 : past.getD (born + 3).toNat 0 = 0 := by assumption
    rename News h₀ _ _ _ => NN
    refine hret _ _ _ [] (by assumption) (news_drop NN (fun p hp => .tail _ (.tail _ hp))) (fun _ _ _ h9 => nomatch h9) ⟨rfl, ⟨_, congrArg (fun z => Value.str z _) ?_⟩⟩
    simp only [fieldS, hd0, if_true]
  · have hd0 : ¬ past.getD (born + 3).toNat 0 = 0 := by assumption
    have hb0 : 0 ≤ born := by
      by_cases h : 0 ≤ born
      · exact h
      · exact absurd (hp0 (born + 3).toNat (by omega)) hd0
    have hdm : past.getD (born + 3).toNat 0 ∈ past := by
      have h3 : (born + 3).toNat < past.length := by omega
      rw [List.getD_eq_getElem?_getD, List.getElem?_eq_getElem h3]; exact List.getElem_mem _
    have hdb := hpb _ hdm
    obtain ⟨tq, hdq⟩ := hni.get (past.getD (born + 3).toNat 0).toNat (nums.getD (past.getD (born + 3).toNat 0).toNat 0) (by
      have h3 : (past.getD (born + 3).toNat 0).toNat < nums.length := by omega
      rw [List.getD_eq_getElem?_getD (l := nums), List.getElem?_eq_getElem h3]; rfl)
    have hnm := hnb (nums.getD (past.getD (born + 3).toNat 0).toNat 0) (by
      have h3 : (past.getD (born + 3).toNat 0).toNat < nums.length := by omega
      rw [List.getD_eq_getElem?_getD (l := nums), List.getElem?_eq_getElem h3]; exact List.getElem_mem _)
    unfold Hold
    rename IsRange _ _ _ _ _ _ _ _ => hr
    rename Fr _ _ _ _ => F1
    rename News _ _ _ _ => N1
    refine kst_range (n := (turn + 1 - born).toNat) (σ := Unit) (fun _ => (na, listOf nvs.toArray nn) :: (pa, listOf pvs.toArray pn) :: news) (fun _ => []) (fun _ => True) [] (fun pre _ => ∀ i, i < pre.length → ((win4 past (born.toNat + i)).any fun x => x == 0) = true) () rfl hr ?_ ?_ F1 N1 trivial (by simp) (by simp) ?_ ?_
    · exact small_one (by omega) (by omega) (by omega) (by omega)
    · rw [rangeSize_one]; split <;> omega
    · intro c pre k t u h tk own hk1 hk2 hoff _ hP F2 N2
      clear hr F1 N1
      k_steps
      · unfold Hold
        rename List.any _ _ = true => hz
        rename Fr _ _ _ _ => F3
        rename News _ _ _ _ => N3
        refine kst_end () F3 N3 (fun p hp => .tail _ (List.mem_append_left _ hp)) (fun p hp => .tail _ (List.mem_append_right _ hp)) rfl trivial (by (dsimp only [kstB]; kst_all)) (by (dsimp only [kstB]; kst_same)) ?_
        rw [win_eq (by omega) (by omega)] at hz
        intro i hi
        rw [List.length_append, List.length_singleton] at hi
        by_cases hl : i < pre.length
        · exact hP i hl
        · have e : born.toNat + i = k.toNat := by omega
          rw [e]; exact hz
      · rename List.any _ _ = false => hz
        rename News h₀ _ _ _ => NN
        refine hret _ _ _ [] (by assumption) (news_drop NN (fun p hq => by have h9 : p ∈ news := hq; simp only [List.mem_cons, List.mem_append, List.cons_append, h9, true_or, or_true])) (fun _ _ _ h9 => nomatch h9) ⟨rfl, ⟨_, congrArg (fun z => Value.str z _) ?_⟩⟩
        rw [win_eq (by omega) (by omega), show k.toNat = born.toNat + pre.length by omega] at hz
        simp only [fieldS, if_neg hd0, plainB_true hk2 hz, if_true]
        rfl
    · intro c u h tk _ hP F2 N2
      clear hr F1 N1
      k_steps
      have hbm : born.fmod 3 = 0 ∨ born.fmod 3 = 1 ∨ born.fmod 3 = 2 := by
        rw [Int.fmod_eq_emod_of_nonneg _ (by decide : (0:Int) ≤ 3)]; omega
      rcases hbm with e | e | e
      all_goals
        rw [e]
        k_steps
        rename News h₀ _ _ _ => NN
        refine hret _ _ _ [] (by assumption) (news_drop NN (fun p hq => by have h9 : p ∈ news := hq; simp only [List.mem_cons, List.mem_append, List.cons_append, h9, true_or, or_true])) (fun _ _ _ h9 => nomatch h9) ⟨rfl, ⟨_, congrArg (fun z => Value.str z _) ?_⟩⟩
        rw [rangeKs_length] at hP
        have e' : born % 3 = _ := (Int.fmod_eq_emod_of_nonneg _ (by decide : (0:Int) ≤ 3)).symm.trans e
        simp only [fieldS, if_neg hd0, plainB_false hP, signS, e']
        rfl
end
end Mine
end
theorem Mine.fresh38 : True := by
  w_top off
  trivial
section
open PySem PySem.W PyProof.Rows
set_option maxRecDepth 100000
set_option maxHeartbeats 8000000
namespace Mine

section
theorem turn4 (w : World) (mean : ExcName → Option Value) (mg mb : Str → Option Value) (fa : Addr) (cdv : Value) (h₀ : Heap) (s : Shared) (m : Str → Option Value) (news : List (Addr × Obj)) (L : Addr)
   (na : Addr) (nvs : List Value) (nums : List Int) (oN oT : Obj) (turn d : Int) (t1 tt : Tok)
   (E : Value → Shared → Prop) (Q : Flow → Shared → Prop)
   (F : Fr h₀ L s.heap m) (X : (Mine.hd.heap_39 w.params).In h₀) (T : Top Mine.hd.view_39 LO mean mg mb h₀)
   (m1 : m (Str.ofString "digit") = some (.int d t1)) (m2 : m (Str.ofString "spelled") = some .none)
   (N : News h₀ L s.heap news) (hmN : (L + 1, oN) ∈ news) (dN : oN.data = Data.cell (some (.ref na))) (hmT : (L + 1 + 1 + 1 + 1 + 1, oT) ∈ news) (dT : oT.data = Data.cell (some (.int turn tt))) (hmn : (na, listOf nvs.toArray 0) ∈ news) (hni : IntsAre nvs nums) (hnl : nums.length = 3)
   (hnb : ∀ x ∈ nums, 0 ≤ x ∧ x < 100) (hd0 : 0 ≤ d) (hd3 : d < 3) (ht0 : 0 ≤ turn) (ht1 : turn < 28)
   (hret : ∀ (h' : Heap) (tk' : Nat) (v : Value), ((d = 0 ∧ v = .none) ∨ (d ≠ 0 ∧ ∃ t, v = .str (signS turn ++ intS (nums.getD d.toNat 0)) t)) → Fr h₀ L h' (fun y => if y = Str.ofString "spelled" then some v else m y) →
      News h₀ L h' news → Q .next { s with heap := h', toks := tk' }) :
   wpAny (model PR w) (lawA L fa cdv) (execs ((turnBody.drop 11).take 1) (lawEnv L fa cdv)) Q E s := by
  have kf : Fill PySem.Challenge.rw_wn0026_01 Mine.hd.heap_39 := by (k_fill; exact trivial)
  clear kf
  have hps : ∀ q ∈ [(Str.ofString "digit", Value.int d t1), (Str.ofString "spelled", Value.none)], m q.1 = some q.2 := by
    intro q hq
    simp only [List.mem_cons, List.not_mem_nil, or_false] at hq
    rcases hq with rfl | rfl <;> assumption
  have F1 := fr_over F _ hps
  have em := over_self (m := m) hps
  simp only [over] at F1 em
  have N1 : News h₀ L s.heap ((L + 1, oN) :: (L + 1 + 1 + 1 + 1 + 1, oT) :: (na, listOf nvs.toArray 0) :: news) := news_cons (news_cons (news_cons N hmn) (.tail _ hmT)) (.tail _ (.tail _ hmN))
  have hdq : ∃ tq, nvs[d.toNat]? = some (.int (nums.getD d.toNat 0) tq) := hni.get d.toNat (nums.getD d.toNat 0) (by
    have h3 : d.toNat < nums.length := by omega
    rw [List.getD_eq_getElem?_getD, List.getElem?_eq_getElem h3]; rfl)
  obtain ⟨tq, hdq⟩ := hdq
  have hnm := hnb (nums.getD d.toNat 0) (by
    have h3 : d.toNat < nums.length := by omega
    rw [List.getD_eq_getElem?_getD, List.getElem?_eq_getElem h3]; exact List.getElem_mem _)
  k_steps
  · have hbm : turn.fmod 3 = 0 ∨ turn.fmod 3 = 1 ∨ turn.fmod 3 = 2 := by
      rw [Int.fmod_eq_emod_of_nonneg _ (by decide : (0:Int) ≤ 3)]; omega
    rcases hbm with e | e | e
    all_goals
      rw [e]
      k_steps
      refine wpAny_execs_nil ?_
      rename Fr _ _ _ _ => F2
      rename News _ _ _ _ => N2
      have e' : turn % 3 = _ := (Int.fmod_eq_emod_of_nonneg _ (by decide : (0:Int) ≤ 3)).symm.trans e
      refine hret _ _ _ (.inr ⟨by omega, ?_⟩) (Eq.mp (congrArg (fun g : Str → Option Value => Fr h₀ L _ (fun y => if y = Str.ofString "spelled" then some _ else g y)) em) F2) (news_drop N2 (by kcf_all))
      simp only [signS, e']
      exact ⟨_, rfl⟩
  · refine wpAny_execs_nil ?_
    have hdz : d = 0 := by omega
    refine hret _ _ .none (.inl ⟨hdz, rfl⟩) ?_ N
    have e2 : (fun y => if y = Str.ofString "spelled" then some Value.none else m y) = m := by
      funext y
      by_cases q : y = Str.ofString "spelled"
      · rw [if_pos q, q, m2]
      · rw [if_neg q]
    rw [e2]
    exact Eq.mp (congrArg (fun g : Str → Option Value => Fr h₀ L _ g) em) F1
end
end Mine
end
theorem Mine.fresh39 : True := by
  w_top off
  trivial
section
open PySem PySem.W PyProof.Rows
set_option maxRecDepth 100000
set_option maxHeartbeats 8000000
namespace Mine

section
local macro_rules | `(tactic| walk_at "call ref") => `(tactic| (with_reducible refine Mine.Hold.out ?_))
local macro_rules | `(tactic| walk_at "storeName") => `(tactic| ((with_reducible refine inCellsS ?_); (rename Fr _ _ _ _ => F'); (rename News _ _ _ _ => N'); first | (with_unfolding_all refine stLocN F' N' ?_; intro _ _ _) | (refine Mine.Hold.out ?_)))
local macro_rules | `(tactic| walk_at "subscriptTail Name Constant ref int") => `(tactic| (with_reducible refine Mine.Hold.out ?_))
theorem three_of {l : List (Str × Tok)} {a b c : Str} (h : l.map (fun x => x.1) = [a, b, c]) : ∃ t1 t2 t3, l = [(a, t1), (b, t2), (c, t3)] := by
  match l, h with
  | [(x, t1), (y, t2), (z, t3)], h =>
    simp only [List.map_cons, List.map_nil, List.cons.injEq, and_true] at h
    obtain ⟨rfl, rfl, rfl⟩ := h
    exact ⟨t1, t2, t3, rfl⟩
def headS (sx : Option (Str × Tok)) : Str := match sx with | none => Str.ofString "C" | some q => q.1
theorem turn5 (w : World) (mean : ExcName → Option Value) (mg mb : Str → Option Value) (fa : Addr) (cdv : Value) (h₀ : Heap) (s : Shared) (base : Heap) (m : Str → Option Value) (news : List (Addr × Obj)) (L : Addr)
   (oW oT : Obj) (turn : Int) (tt tw : Tok) (sx : Option (Str × Tok)) (win f1 f2 f3 win' : Str)
   (E : Value → Shared → Prop) (Q : Flow → Shared → Prop)
   (K0 : Below callerA base [] h₀) (F : Fr h₀ L s.heap m) (X : (Mine.hd.heap_39 w.params).In h₀) (T : Top Mine.hd.view_39 LO mean mg mb h₀)
   (m1 : m (Str.ofString "spelled") = some (ov sx))
   (N : News h₀ L s.heap ((L + 1 + 1 + 1, oW) :: news)) (hap : ∀ q ∈ news, q.1 ≠ L + 1 + 1 + 1) (dW : oW.data = Data.cell (some (.str win tw))) (hmT : (L + 1 + 1 + 1 + 1 + 1, oT) ∈ news) (dT : oT.data = Data.cell (some (.int turn tt))) (ht0 : 0 ≤ turn) (ht1 : turn < 28)
   (hsx : ∀ q, sx = some q → q.1.length < 10) (hwl : win.length < 50) (hfl : f1.length < 10 ∧ f2.length < 10 ∧ f3.length < 10)
   (hsp : Txt.split win (Str.ofString ".") = [f1, f2, f3])
   (hE : ∀ nw t, TellsF w 52 nw [.str (headS sx ++ Str.ofString "." ++ win) t] (fun new v => new = [] ∧ ∃ t, v = .str win' t))
   (hO : ∀ nw t u, TellsF w 52 nw [.str (headS sx ++ Str.ofString "." ++ (f1 ++ Str.ofString "." ++ f2)) t, .str f3 u] (fun new v => new = [] ∧ ∃ t, v = .str win' t))
   (hret : ∀ (h' : Heap) (tk' : Nat) (oW' : Obj) (tw' : Tok) (m' : Str → Option Value), (∀ y, y ≠ Str.ofString "parts" → m' y = m y) → oW'.data = Data.cell (some (.str win' tw')) → Fr h₀ L h' m' →
      News h₀ L h' ((L + 1 + 1 + 1, oW') :: news) → Q .next { s with heap := h', toks := tk' }) :
   wpAny (model PR w) (lawA L fa cdv) (execs ((turnBody.drop 12).take 1) (lawEnv L fa cdv)) Q E s := by
  have kf : Fill PySem.Challenge.rw_wn0026_01 Mine.hd.heap_39 := by (k_fill; exact trivial)
  clear kf
  have hps : ∀ q ∈ [(Str.ofString "spelled", ov sx)], m q.1 = some q.2 := by
    intro q hq
    simp only [List.mem_cons, List.not_mem_nil, or_false] at hq
    rcases hq with rfl; assumption
  have F1 := fr_over F _ hps
  have em := over_self (m := m) hps
  simp only [over] at F1 em
  have N1 : News h₀ L s.heap ((L + 1 + 1 + 1 + 1 + 1, oT) :: (L + 1 + 1 + 1, oW) :: news) := news_cons N (.tail _ hmT)
  k_steps
  · rename Fr _ _ _ _ => F2
    rename News _ _ _ _ => N2
    refine useT (c_build w _ _ sx (some (win, tw)) 0 (.head _) (fun q h => by have := hsx q h; omega) (fun q h => by cases h; exact (show win.length < 1000 by omega))) K0 F2 X N2 T ?_
    rintro v3 h3 tk3 new3 F3 N3 lt3 ⟨rfl, t3, rfl⟩
    rw [List.nil_append] at N3
    clear F2 N2 lt3
    k_steps
    refine useF (hE _ _) F3 X N3 T ?_
    rintro v4 h4 tk4 new4 F4 N4 lt4 ⟨rfl, t4, rfl⟩
    rw [List.nil_append] at N4
    clear F3 N3 lt4
    k_steps
    rename Fr _ _ _ _ => F4
    rename News _ _ _ _ => N4
    refine st_cellF F4 (news := (L + 1 + 1 + 1, oW) :: news) (news_drop N4 (by kcf_all)) rfl (.head hap) dW fun h5 oW' F5 N5 dW' => ?_
    clear F4 N4
    k_steps
    rename Fr _ _ _ _ => F5
    rename News _ _ _ _ => N5
    refine wpAny_execs_nil ?_
    dsimp only
    exact hret _ _ oW' t4 m (fun y _ => rfl) dW' (Eq.mp (congrArg (fun g : Str → Option Value => Fr h₀ L _ g) em) F5) N5
  · rename List (Str × Tok) => l8
    have hsp8 : l8.map (fun x => x.1) = Txt.split win (Str.ofString ".") := by assumption
    obtain ⟨u1, u2, u3, rfl⟩ := three_of (hsp8.trans hsp)
    rename Fr _ _ _ _ => F2
    rename News _ _ _ _ => N2
    have hsv : strValues [(f1, u1), (f2, u2), (f3, u3)] = [.str f1 u1, .str f2 u2, .str f3 u3] := rfl
    rw [hsv] at N2
    refine my_item (vs := [.str f1 u1, .str f2 u2, .str f3 u3]) (v := .str f1 u1) (isList_of N2 (.head _)) (by decide) (by decide) rfl ?_
    k_steps
    refine my_item (vs := [.str f1 u1, .str f2 u2, .str f3 u3]) (v := .str f2 u2) (isList_of N2 (.head _)) (by decide) (by decide) rfl ?_
    k_steps
    rename Fr _ _ _ _ => F3
    rename News _ _ _ _ => N3
    have hl12 : (f1 ++ Str.ofString "." ++ f2).length < 1000 := by
      have : (Str.ofString ".").length = 1 := by decide
      have e1 : (f1 ++ Str.ofString "." ++ f2).length = f1.length + (Str.ofString ".").length + f2.length := by
        show (f1.cps ++ (Str.ofString ".").cps ++ f2.cps).size = _
        rw [Array.size_append, Array.size_append]; rfl
      omega
    refine useT (c_build w _ _ sx (some (f1 ++ Str.ofString "." ++ f2, _)) 0 (.head _) (fun q h => by have := hsx q h; omega) (fun q h => by cases h; exact hl12)) K0 F3 X N3 T ?_
    rintro v3 h3 tk3 new3 F5 N5 lt3 ⟨rfl, t3, rfl⟩
    rw [List.nil_append] at N5
    clear F3 N3 lt3
    k_steps
    refine my_item (vs := [.str f1 u1, .str f2 u2, .str f3 u3]) (v := .str f3 u3) (isList_of N5 (.tail _ (.head _))) (by decide) (by decide) rfl ?_
    k_steps
    rename Fr _ _ _ _ => F3
    rename News _ _ _ _ => N3
    refine useF (hO _ _ _) F3 X N3 T ?_
    rintro v4 h4 tk4 new4 F4 N4 lt4 ⟨rfl, t4, rfl⟩
    rw [List.nil_append] at N4
    clear F3 N3 lt4
    k_steps
    rename Fr _ _ _ _ => F4
    rename News _ _ _ _ => N4
    refine st_cellF F4 (news := (L + 1 + 1 + 1, oW) :: news) (news_drop N4 (by kcf_all)) rfl (.head hap) dW fun h5 oW' F5 N5 dW' => ?_
    clear F4 N4
    k_steps
    rename Fr _ _ _ _ => F5
    rename News _ _ _ _ => N5
    refine wpAny_execs_nil ?_
    dsimp only
    refine hret _ _ oW' t4 (fun y => if y = Str.ofString "parts" then some (Value.ref s.heap.objs.size) else m y) (fun y h => by simp only [if_neg h]) dW' ?_ N5
    exact Eq.mp (congrArg (fun g : Str → Option Value => Fr h₀ L _ (fun y => if y = Str.ofString "parts" then some (Value.ref s.heap.objs.size) else g y)) em) F5
end
end Mine
end
theorem Mine.fresh40 : True := by
  w_top off
  trivial
section
open PySem PySem.W PyProof.Rows
set_option maxRecDepth 100000
set_option maxHeartbeats 8000000
namespace Mine

section
local macro_rules | `(tactic| walk_at "no key 3") => `(tactic| fail)
local macro_rules | `(tactic| walk_at "call ref") => `(tactic| (with_reducible refine Mine.Hold.out ?_))
local macro_rules | `(tactic| walk_at "CompSrc") => `(tactic| (with_reducible refine Mine.Hold.out ?_))
local macro_rules | `(tactic| walk_at "call builtin:str.join") => `(tactic| (with_reducible refine Mine.Hold.out ?_))
def winOf (past : List Int) (turn : Int) (nums : List Int) : Str := Txt.join (Str.ofString ".") [fieldS past turn turn nums, fieldS past (turn - 1) turn nums, fieldS past (turn - 2) turn nums]
theorem turn6 (w : World) (mean : ExcName → Option Value) (mg mb : Str → Option Value) (fa : Addr) (cdv : Value) (h₀ : Heap) (s : Shared) (base : Heap) (m : Str → Option Value) (news : List (Addr × Obj)) (L : Addr)
   (oW oT oN oP : Obj) (turn : Int) (tt tw : Tok) (na pa : Addr) (nvs pvs : List Value) (nums past : List Int) (pn : Nat)
   (E : Value → Shared → Prop) (Q : Flow → Shared → Prop)
   (K0 : Below callerA base [] h₀) (F : Fr h₀ L s.heap m) (X : (Mine.hd.heap_39 w.params).In h₀) (T : Top Mine.hd.view_39 LO mean mg mb h₀)
   (N : News h₀ L s.heap news) (hmW : (L + 1 + 1 + 1, oW) ∈ news) (dW : oW.data = Data.cell (some (.str (winOf past turn nums) tw))) (hmT : (L + 1 + 1 + 1 + 1 + 1, oT) ∈ news) (dT : oT.data = Data.cell (some (.int turn tt)))
   (hmN : (L + 1, oN) ∈ news) (dN : oN.data = Data.cell (some (.ref na))) (hmP : (L + 1 + 1 + 1 + 1, oP) ∈ news) (dP : oP.data = Data.cell (some (.ref pa))) (hp : (pa, listOf pvs.toArray pn) ∈ news) (hn : (na, listOf nvs.toArray 0) ∈ news) (hpi : IntsAre pvs past) (hni : IntsAre nvs nums)
   (hpl : (past.length : Int) = turn + 4) (hnl : nums.length = 3) (hp0 : ∀ i, i < 3 → past.getD i 0 = 0) (hpb : ∀ x ∈ past, 0 ≤ x ∧ x < 3) (hnb : ∀ x ∈ nums, 0 ≤ x ∧ x < 100) (ht : 0 ≤ turn ∧ turn < 28)
   (hfl : ∀ b, (fieldS past b turn nums).length ≤ 100)
   (hret : ∀ (h' : Heap) (tk' : Nat), Fr h₀ L h' m → News h₀ L h' news → Q .next { s with heap := h', toks := tk' }) :
   wpAny (model PR w) (lawA L fa cdv) (execs ((turnBody.drop 13).take 1) (lawEnv L fa cdv)) Q E s := by
  have kf : Fill PySem.Challenge.rw_wn0026_01 Mine.hd.heap_39 := by (k_fill; exact trivial)
  clear kf
  have N1 : News h₀ L s.heap ((L + 1 + 1 + 1, oW) :: (L + 1 + 1 + 1 + 1 + 1, oT) :: (L + 1, oN) :: (L + 1 + 1 + 1 + 1, oP) :: (na, listOf nvs.toArray 0) :: (pa, listOf pvs.toArray pn) :: news) :=
    news_cons (news_cons (news_cons (news_cons (news_cons (news_cons N hp) (.tail _ hn)) (.tail _ (.tail _ hmP))) (.tail _ (.tail _ (.tail _ hmN)))) (.tail _ (.tail _ (.tail _ (.tail _ hmT))))) (.tail _ (.tail _ (.tail _ (.tail _ (.tail _ hmW)))))
  k_steps
  rename Fr _ _ _ _ => F2
  rename News _ _ _ _ => N2
  rename IsRange _ _ _ _ _ _ _ _ => hR
  refine LCg.CompSrc.range (n := 3) (by rfl) F2 N2 hR (by decide) (by rfl) (by decide) ?_
  intro g2
  refine comp_inv (fun i ys nw => (∃ ts : Nat → Tok, ys = strsOf (fun k => fieldS past (turn - k) turn nums) ts i) ∧ nw = (L + 1 + 1 + 1, oW) :: (L + 1 + 1 + 1 + 1 + 1, oT) :: (L + 1, oN) :: (L + 1 + 1 + 1 + 1, oP) :: (na, listOf nvs.toArray 0) :: (pa, listOf pvs.toArray pn) :: news) ?turn ?fin ?zero
  case turn =>
    rintro i v ys nw Ia oI C oC D m2 h tk E' hi ⟨t, rfl⟩ ⟨⟨ts, rfl⟩, rfl⟩ hC hx F3 N3 off ne
    clear F2 N2 hR
    k_steps
    refine useT (c_field w _ pa na pvs nvs past nums pn 0 (turn - (0 + (i : Int))) turn _ _ (by kcf_m) (by kcf_m) hpi hni hpl hnl hp0 hpb hnb ht ⟨by omega, by omega⟩) K0 F3 X N3 T ?_
    rintro v4 h4 tk4 new4 F4 N4 lt4 ⟨rfl, t4, rfl⟩
    rw [List.nil_append] at N4
    refine LCg.CompEnd.intro F4 N4 _ (fun p hp => hp) off ?s3 ?s4
    case s3 => trivial
    case s4 =>
      refine ⟨⟨fun j => if j = i then t4 else ts j, ?_⟩, rfl⟩
      rw [← strsOf_snoc]
      have e : fieldS past (turn - (0 + (i : Int))) turn nums = fieldS past (turn - (i : Int)) turn nums := by rw [Int.zero_add]
      exact congrArg (fun z => strsOf (fun k => fieldS past (turn - k) turn nums) ts i ++ [Value.str z t4]) e
  case zero => exact ⟨⟨fun _ => 0, rfl⟩, rfl⟩
  case fin =>
    rintro ys nw ⟨⟨ts, rfl⟩, rfl⟩
    intro D3 h3 tk3 F5 N5 O5
    k_steps
    have hss : strsOf (fun k => fieldS past (turn - k) turn nums) ts 3 = [.str (fieldS past turn turn nums) (ts 0), .str (fieldS past (turn - 1) turn nums) (ts 1), .str (fieldS past (turn - 2) turn nums) (ts 2)] := by
      have e : (turn - ((0 : Nat) : Int)) = turn := by omega
      show [Value.str (fieldS past (turn - ((0 : Nat) : Int)) turn nums) (ts 0), _, _] = _
      rw [e]; rfl
    rw [hss] at N5
    rename Fr _ _ _ _ => F6
    rename News _ _ _ _ => N6
    refine join_listW (ys := [fieldS past turn turn nums, fieldS past (turn - 1) turn nums, fieldS past (turn - 2) turn nums]) ⟨_, (N6 _ (.head _)).1, rfl, _, rfl⟩ ?sa (by decide) ?wt fun t7 k7 => ?_
    case sa => exact .cons _ _ (.cons _ _ (.cons _ _ .nil))
    case wt =>
      have a1 := hfl turn
      have a2 := hfl (turn - 1)
      have a3 := hfl (turn - 2)
      simp; omega
    have ew : Txt.join (Str.ofString ".") [fieldS past turn turn nums, fieldS past (turn - 1) turn nums, fieldS past (turn - 2) turn nums] = winOf past turn nums := rfl
    rw [ew]
    k_steps
    try exact absurd ‹(winOf past turn nums != winOf past turn nums) = true› (by simp)
    rename Fr _ _ _ _ => F7
    rename News _ _ _ _ => N7
    refine wpAny_execs_nil ?_
    dsimp only
    exact hret _ _ F7 (news_drop N7 (by kcf_all))
end
end Mine
end
theorem Mine.fresh41 : True := by
  w_top off
  trivial
section
open PySem PySem.W PyProof.Rows PySem.Calls PySem.Builtin
set_option maxRecDepth 100000
namespace Mine
theorem entry_map_iter : entryFor table "map.__iter__" = some Builtin.«dict_keyiterator.__iter__» :=
  entryFor_alias (id' := "dict_keyiterator.__iter__") (by kernel_rfl) (by first | rfl | decide +kernel | (unfold String.splitOn; simp +decide [String.splitOnAux])) (by decide +kernel) (by kernel_rfl)
theorem mro_map : mroOf (.type "map") = pure [.type "map", .type "object"] := by rw [mroOf_type]; kernel_rfl
theorem lookup_map_new : typeLookup (.type "map") "__new__" = pure (some (.builtin "map.__new__")) := by rw [typeLookup_type, builtinLookup_eq_fast]; kernel_rfl
theorem slot_map_init : Slot "map" "__init__" "object.__init__" :=
  .of (owner := "object") (n := "__init__") (by rw [typeLookup_type, builtinLookup_eq_fast]; kernel_rfl) (by decide +kernel) (by decide +kernel) (by decide +kernel)
    (by first | exact .inl (by decide +kernel) | exact .inr (by decide +kernel)) (by rw [isSubtype_type]; kernel_rfl)
theorem slot_map_next : Slot "map" "__next__" "map.__next__" :=
  .of (owner := "map") (n := "__next__") (by rw [typeLookup_type, builtinLookup_eq_fast]; kernel_rfl) (by decide +kernel) (by decide +kernel) (by decide +kernel)
    (by first | exact .inl (by decide +kernel) | exact .inr (by decide +kernel)) (by rw [isSubtype_type]; kernel_rfl)
theorem slot_map_iter : Slot "map" "__iter__" "map.__iter__" :=
  .of (owner := "map") (n := "__iter__") (by rw [typeLookup_type, builtinLookup_eq_fast]; kernel_rfl) (by decide +kernel) (by decide +kernel) (by decide +kernel)
    (by first | exact .inl (by decide +kernel) | exact .inr (by decide +kernel)) (by rw [isSubtype_type]; kernel_rfl)
theorem called_map : TypeCalled "map" "map.__new__" "object.__init__" :=
  ⟨by decide +kernel, by decide +kernel, ⟨_, _, mro_map⟩, madeBy_type mro_map lookup_map_new (by decide +kernel), by decide +kernel, by rw [isSubtype_type]; kernel_rfl, slot_map_init⟩
theorem typeCall_map (a b : Value) : checkTypeCall "map" ⟨[a, b], []⟩ = pure () := by kernel_rfl
theorem newCall_map (a b : Value) : checkBuiltinCall "map.__new__" ⟨[.type "map", a, b], []⟩ = pure () := by kernel_rfl
theorem entry_map_new : entryFor table "map.__new__" = some Builtin.«map.__new__» := entryFor_of_tree (by kernel_rfl)
theorem entry_map_next : entryFor table "map.__next__" = some Builtin.«map.__next__» := entryFor_of_tree (by kernel_rfl)
theorem sub_map : isSubtype (.type "map") (.type "map") = pure true := by rw [isSubtype_type]; kernel_rfl
theorem owner_map : Manifest.owners.lookup (String.ofList ['p', 'a', 'm'].reverse) = some Manifest.sig_map := by kernel_rfl
theorem args_map_next (a : Value) : argsOk "map.__next__" ⟨[a], []⟩ := by
  unfold argsOk; rw [signature?_of (id := "map.__next__") (n := ['_', '_', 't', 'x', 'e', 'n', '_', '_']) (o := ['p', 'a', 'm']) (by kernel_rfl) owner_map]; kernel_rfl
theorem args_map_iter (a : Value) : argsOk "map.__iter__" ⟨[a], []⟩ := by
  unfold argsOk; rw [signature?_of (id := "map.__iter__") (n := ['_', '_', 'r', 'e', 't', 'i', '_', '_']) (o := ['p', 'a', 'm']) (by kernel_rfl) owner_map]; kernel_rfl
theorem nolen_map : typeLookup (.type "map") "__len__" = pure none := by rw [typeLookup_type, builtinLookup_eq_fast]; kernel_rfl
theorem nohint_map : typeLookup (.type "map") "__length_hint__" = pure none := by rw [typeLookup_type, builtinLookup_eq_fast]; kernel_rfl
abbrev mapOb (t : Addr) (f : String) : Obj := { cls := .type "map", data := .fields #[.ref t, .type f] }
abbrev tupOb (i : Addr) : Obj := { cls := .type "tuple", data := .seq #[.ref i] }
abbrev itOb (l : Addr) : Obj := { cls := .type "list_iterator", data := .fields #[.ref l, .int 0 0] }
end Mine
end
theorem Mine.fresh42 : True := by
  w_top off
  trivial
section
open PySem PySem.W PyProof.Rows PySem.Calls PySem.Builtin
set_option maxRecDepth 100000
namespace Mine
section
variable {prog : Program} {w : World} {A : Around} {E : Value → Shared → Prop} {s : Shared} {Q : Value → Shared → Prop}
theorem map_self {m t : Addr} {f : String} (hm : s.heap.get? m = some (mapOb t f)) (h : Q (.ref m) s) : wpAny (model prog w) A (pyIter (.ref m)) Q E s := by
  have hT : s.TypeIs (.ref m) "map" := ⟨_, hm, rfl⟩
  refine wpAny_pyIter_slot hT slot_map_iter (wpAny_call_entry slot_map_iter hT entry_map_iter ?_ (args_map_iter _))
  exact wpAny_pure ⟨_, rfl, "map", _, hT, slot_map_next.lookup, h⟩
theorem meets_map_new (f : String) (x : Value) : Meets (Builtin.«map.__new__» ⟨[.type "map", .type f, x], []⟩) (fun _ R s => ∃ it s₁, (∀ (prog : Program) (w : World) (A : Around) (E : Value → Shared → Prop), wpAny (model prog w) A (pyIter x) (fun it' s' => it' = it ∧ s' = s₁) E s) ∧
      R (.ok (.ret (.ref (s₁.heap.objs.size + 1)))) { s₁ with heap := (s₁.heap.push { cls := .type "tuple", data := .seq #[it] }).push (mapOb s₁.heap.objs.size f) }) :=
  .of_wp fun prog w A R s h => by
    obtain ⟨it, s₁, hit, h⟩ := h
    have h1 : isType (.type "map") = pure true := by rfl
    unfold Builtin.«map.__new__»
    refine wpAny_bind (m := SmallTypes.newClass "map" _) (wpAny_of_eq (a := (Value.type "map", [.type f, x])) (by unfold SmallTypes.newClass; dsimp only; rw [h1, pure_bind, sub_map, pure_bind]; rfl) ?_)
    dsimp only
    refine wpAny_bind (m := SmallTypes.refuseKeywords "map" _ _) (wpAny_of_eq (a := ()) (by rfl) ?_)
    rw [if_neg (show ¬ ([Value.type f, x].length < 2) by simp)]
    refine wpAny_bind (m := SmallTypes.iterAll [x]) ?_
    unfold SmallTypes.iterAll
    dsimp only
    rw [List.forIn_cons]
    refine wpAny_bind (wpAny_bind (wpAny_bind (wpAny_holding (wpAny_mono (hit prog w _ _) (fun it' s' q => ?_) fun _ _ q => q))))
    obtain ⟨rfl, rfl⟩ := q
    refine wpAny_pure (wpAny_pure (wpAny_pure ?_))
    refine wpAny_bind (wpAny_newTuple ?_ (by show 1 ≤ sizeLine; decide))
    refine wpAny_bind (m := SmallTypes.newRecord _ _) ?_
    unfold SmallTypes.newRecord
    dsimp only
    refine wpAny_newObj_type (wpAny_pure ⟨_, rfl, ?_⟩)
    have hz : (s'.heap.push { cls := .type "tuple", data := .seq #[it'] }).objs.size = s'.heap.objs.size + 1 := Heap.size_push ..
    rw [← hz] at h
    exact h
theorem call_map_list {f : String} {l : Addr} {items : Array Value} (hl : s.heap.IsList l items)
   (h : Q (.ref (s.heap.objs.size + 1 + 1)) { s with heap := ((s.heap.push (itOb l)).push (tupOb s.heap.objs.size)).push (mapOb (s.heap.objs.size + 1) f) }) :
   wpAny (model prog w) A (call (.type "map") [.type f, .ref l]) Q E s := by
  have hz : (s.heap.push (itOb l)).objs.size = s.heap.objs.size + 1 := Heap.size_push ..
  refine callType_new called_map (by decide) (typeCall_map _ _) (newCall_map _ _) (fun obj => init3 obj _ _) entry_map_new (meets_map_new f (.ref l)) ⟨.ref s.heap.objs.size, { s with heap := s.heap.push (itOb l) }, fun prog w A E => wpAny_pyIter_list hl ⟨rfl, rfl⟩, ?_⟩
  show _ ∧ _
  have hz2 : ((s.heap.push (itOb l)).push (tupOb s.heap.objs.size)).objs.size = s.heap.objs.size + 1 + 1 := by rw [Heap.size_push, hz]
  refine ⟨⟨mapOb (s.heap.push (itOb l)).objs.size f, ?_, rfl⟩, ?_⟩
  · have := Heap.get?_push_size ((s.heap.push (itOb l)).push (tupOb s.heap.objs.size)) (o := mapOb (s.heap.push (itOb l)).objs.size f) rfl
    rw [hz2] at this
    show _ = _
    rw [hz]
    rw [hz] at this
    exact this
  · rw [hz]; exact h
theorem call_map_map {f g : String} {m t : Addr} (hm : s.heap.get? m = some (mapOb t g))
   (h : Q (.ref (s.heap.objs.size + 1)) { s with heap := (s.heap.push (tupOb m)).push (mapOb s.heap.objs.size f) }) :
   wpAny (model prog w) A (call (.type "map") [.type f, .ref m]) Q E s := by
  have hz : (s.heap.push (tupOb m)).objs.size = s.heap.objs.size + 1 := Heap.size_push ..
  refine callType_new called_map (by decide) (typeCall_map _ _) (newCall_map _ _) (fun obj => init3 obj _ _) entry_map_new (meets_map_new f (.ref m)) ⟨.ref m, s, fun prog w A E => map_self hm ⟨rfl, rfl⟩, ?_⟩
  show _ ∧ _
  refine ⟨⟨mapOb s.heap.objs.size f, ?_, rfl⟩, h⟩
  have := Heap.get?_push_size (s.heap.push (tupOb m)) (o := mapOb s.heap.objs.size f) rfl
  rw [hz] at this
  exact this
end
end Mine
end
theorem Mine.fresh43 : True := by
  w_top off
  trivial
section
open PySem PySem.W PyProof.Rows PySem.Calls PySem.Builtin PySem.NumText
set_option maxRecDepth 100000
namespace Mine
section
variable {prog : Program} {w : World} {A : Around} {E : Value → Shared → Prop} {s : Shared} {Q : Value → Shared → Prop}
theorem call_next {m t : Addr} {f : String} (hm : s.heap.get? m = some (mapOb t f))
    (h : wpK (fun Γ => Γ.code = .builtin "map.__next__" ⟨[.ref m], []⟩) (model prog w) A.in1 (Builtin.«map.__next__» ⟨[.ref m], []⟩) (fun fin s' => ∃ v, fin = .done (.ret v) ∧ Q v s') E s) :
    wpAny (model prog w) A (call (.builtin "map.__next__") [.ref m]) Q E s := by
  have hT : s.TypeIs (.ref m) "map" := ⟨_, hm, rfl⟩
  refine wpAny_call (codeAny_of_tree ?_)
  show wpAny _ _ (do checkBuiltinCall "map.__next__" _; again (.builtin "map.__next__" _)) _ _ _
  refine wpAny_bind (slot_map_next.check _ _ _ _ _ _ _ _ hT (args_map_next _) (wpAny_pure ⟨Code.quiet_builtin _ (by decide +kernel), fun Γ p hc hΓ => ?_⟩))
  refine codeK.builtin (K := fun _ => True) entry_map_next ?_ Γ p hc hΓ trivial
  rw [Around.under_plainId (by decide +kernel) _]
  refine wpK.weaken (wpK.mono h (fun fin s' q => ?_) fun _ _ q => q) fun Γ q => q.2
  obtain ⟨v, rfl, q⟩ := q
  exact q
theorem map_tree {K : Ctx → Prop} {m t it : Addr} {f : String} {Qf : PySem.Fin → Shared → Prop} (hm : s.heap.get? m = some (mapOb t f)) (ht : s.heap.get? t = some (tupOb it))
    (h : wpAny (model prog w) A (SmallTypes.nextOf (.ref it)) (fun v s₁ => s₁.heap.get? m = some (mapOb t f) ∧ wpK K (model prog w) A (call (.type f) [v]) (fun r s₂ => Qf (.done (.ret r)) s₂) E s₁) E s) :
    wpK K (model prog w) A (Builtin.«map.__next__» ⟨[.ref m], []⟩) Qf E s := by
  unfold Builtin.«map.__next__»
  refine wpK.first (m := slotArgs "__next__" 0 _) (wpAny_of_eq (a := (Value.ref m, [])) (by rfl) ?_)
  dsimp only
  refine wpK.first (wpAny_field hm rfl (x := .ref t) rfl ?_)
  refine wpK.first (wpAny_seqItems ht rfl ?_)
  dsimp only
  rw [← Array.forIn_toList]
  show wpK _ _ _ (forIn [Value.ref it] _ _ >>= _) _ _ _
  rw [List.forIn_cons]
  refine wpK.first (wpAny_bind (wpAny_bind (wpAny_holding (wpAny_mono h (fun v s₁ q => ?_) fun _ _ q => q))))
  refine wpAny_pure (wpAny_pure ?_)
  refine wpK.first (wpAny_field q.1 rfl (x := .type f) rfl ?_)
  refine wpK.bind (wpK.holding (q.2.mono (fun r s₂ q => ?_) fun _ _ q => q))
  exact wpK.up (wpAny_bind (wpAny_letGo (wpAny_pure q)))
theorem nextOf_map {m t it : Addr} {f : String} (hm : s.heap.get? m = some (mapOb t f)) (ht : s.heap.get? t = some (tupOb it))
    (h : wpAny (model prog w) A.in1 (SmallTypes.nextOf (.ref it)) (fun v s₁ => s₁.heap.get? m = some (mapOb t f) ∧ wpK (fun Γ => Γ.code = .builtin "map.__next__" ⟨[.ref m], []⟩) (model prog w) A.in1 (call (.type f) [v]) Q E s₁) E s) :
    wpAny (model prog w) A (SmallTypes.nextOf (.ref m)) Q E s := by
  have hT : s.TypeIs (.ref m) "map" := ⟨_, hm, rfl⟩
  unfold SmallTypes.nextOf
  refine wpAny_bind (wpAny_callSpecial?_slot (name := Str.ofString "__next__") hT slot_map_next (call_next hm (map_tree hm ht ?_)))
  refine wpAny_mono h (fun v s₁ q => ⟨q.1, q.2.mono (fun r s₂ q => ⟨r, rfl, wpAny_pure q⟩) fun _ _ q => q⟩) fun _ _ q => q
theorem int1_fails {m : Addr} {x : Str} {u : Tok} (hn : PySem.intText? x = none) (hs : (numSeenOf x).length ≤ 640) (hl : ((numSeenOf x).length == (numTextOf x).length) = true) (hz : (reprText x).length ≤ sizeLine) (hm : (msgOf x).length ≤ sizeLine)
    (hh : A.handled = none) (h : ∀ h' tk e, Heap.NewExc s.heap h' e "ValueError" → E (.ref e) { s with heap := h', toks := tk }) :
    wpK (fun Γ => Γ.code = .builtin "map.__next__" ⟨[.ref m], []⟩) (model prog w) A (call (.type "int") [.str x u]) Q E s := by
  refine int_fails (K1 := fun Γ => ∃ p l, Γ.below = (.builtin "map.__next__" ⟨[.ref m], []⟩, p) :: l) (K2 := fun Γ => ∃ p q l, Γ.below = (.builtin "type.__call__" ⟨[.type "int", .str x u], []⟩, q) :: (.builtin "map.__next__" ⟨[.ref m], []⟩, p) :: l)
    _ (F.typeCall_int_1 _) (F.newCall_int_1 _) (fun Γ p b => ⟨p, Γ.below, by show (Γ.code, p) :: Γ.below = _; rw [b]⟩) (fun Γ c b => b) (fun Γ p b c => ?_) (fun Γ c b => b) (fun Γ b c => ?_) hh fun A' hh' => new1_fails hn hs hl hz hm h hh'
  · obtain ⟨p', l, e⟩ := b
    exact ⟨p', p, l, by show (Γ.code, p) :: Γ.below = _; rw [c, e]⟩
  · obtain ⟨p', q, l, e⟩ := b
    show pythonCodeMadeTheCall ["int.__new__"] (Γ.code :: Γ.below.map (·.1)) = false
    rw [c, e]
    show (!_ && _ && false) = false
    rw [Bool.and_false]
end
end Mine
end
theorem Mine.fresh44 : True := by
  w_top off
  trivial
section
open PySem PySem.W PyProof.Rows PySem.Calls PySem.Builtin PySem.NumText
set_option maxRecDepth 100000
set_option maxHeartbeats 4000000
namespace Mine
open Rex (StrList)
structure MapSt (h : Heap) (l i1 t1 m1 t2 m2 : Addr) (items : Array Value) (i : Nat) : Prop where
  hl : h.IsList l items
  hi : h.IsListIter i1 l i
  ht1 : h.get? t1 = some (tupOb i1)
  hm1 : h.get? m1 = some (mapOb t1 "int")
  ht2 : h.get? t2 = some (tupOb m1)
  hm2 : h.get? m2 = some (mapOb t2 "str")
  nl : l ≠ i1
  n1 : t1 ≠ i1
  n2 : m1 ≠ i1
  n3 : t2 ≠ i1
  n4 : m2 ≠ i1
theorem MapSt.keep {h h' : Heap} {l i1 t1 m1 t2 m2 : Addr} {items : Array Value} {i : Nat} (M : MapSt h l i1 t1 m1 t2 m2 items i) (k : ∀ b o, b = l ∨ b = i1 ∨ b = t1 ∨ b = m1 ∨ b = t2 ∨ b = m2 → h.get? b = some o → h'.get? b = some o) : MapSt h' l i1 t1 m1 t2 m2 items i := by
  obtain ⟨⟨o1, e1, c1⟩, ⟨o2, e2, c2⟩, h1, h2, h3, h4, n0, n1, n2, n3, n4⟩ := M
  exact ⟨⟨o1, k _ _ (.inl rfl) e1, c1⟩, ⟨o2, k _ _ (.inr (.inl rfl)) e2, c2⟩, k _ _ (by simp) h1, k _ _ (by simp) h2, k _ _ (by simp) h3, k _ _ (by simp) h4, n0, n1, n2, n3, n4⟩
theorem MapSt.turn {h h' : Heap} {l i1 t1 m1 t2 m2 : Addr} {items : Array Value} {i : Nat} (M : MapSt h l i1 t1 m1 t2 m2 items i) (hi : h'.IsListIter i1 l (i + 1)) (hs : Heap.SameBut i1 h h') : MapSt h' l i1 t1 m1 t2 m2 items (i + 1) := by
  obtain ⟨⟨o1, e1, c1⟩, _, h1, h2, h3, h4, n0, n1, n2, n3, n4⟩ := M
  exact ⟨⟨o1, (hs.2 _ n0).trans e1, c1⟩, hi, (hs.2 _ n1).trans h1, (hs.2 _ n2).trans h2, (hs.2 _ n3).trans h3, (hs.2 _ n4).trans h4, n0, n1, n2, n3, n4⟩
/-- A text that int() refuses. -/
structure Refused (x : Str) : Prop where
  hn : PySem.intText? x = none
  hs : (numSeenOf x).length ≤ 640
  hl : ((numSeenOf x).length == (numTextOf x).length) = true
  hz : (reprText x).length ≤ sizeLine
  hm : (msgOf x).length ≤ sizeLine
section
variable {prog : Program} {w : World} {A : Around} {E : Value → Shared → Prop} {s : Shared} {l i1 t1 m1 t2 m2 : Addr} {items : Array Value} {i : Nat}
theorem next_item {Q : Option Value → Shared → Prop} {x : Str} {u : Tok} {n : Int} (M : MapSt s.heap l i1 t1 m1 t2 m2 items i) (hx : items[i]? = some (.str x u)) (hn : PySem.intText? x = some n) (hl : x.length ≤ 640) (ha : n.natAbs.log2 < 1920)
    (h : ∀ h' t tk, MapSt h' l i1 t1 m1 t2 m2 items (i + 1) → Heap.SameBut i1 s.heap h' → Q (some (.str (Str.ofString (toString n)) t)) { s with heap := h', toks := tk }) : wpAny (model prog w) A (pyNext (.ref m2)) Q E s := by
  have hT : s.TypeIs (.ref m2) "map" := ⟨_, M.hm2, rfl⟩
  unfold pyNext
  refine wpAny_bind (wpAny_attempt (wpAny_callSpecial?_slot (name := Str.ofString "__next__") hT slot_map_next (call_next M.hm2 (map_tree M.hm2 M.ht2 (nextOf_map M.hm1 M.ht1 (wpAny_nextOf_list_item M.hi M.hl hx fun h' hi' hs => ?_))))))
  have M' := M.turn hi' hs
  refine ⟨M'.hm1, wpK.up (KIN.call_text hn hl ⟨M'.hm2, wpK.up (P.str_of_int ha ⟨_, rfl, wpAny_pure (h h' _ _ M' hs)⟩)⟩)⟩
theorem next_fail {Q : Option Value → Shared → Prop} {x : Str} {u : Tok} (hh : A.handled = none) (M : MapSt s.heap l i1 t1 m1 t2 m2 items i) (hx : items[i]? = some (.str x u)) (hr : Refused x)
    (h : ∀ h' h'' e tk, Heap.SameBut i1 s.heap h' → Heap.NewExc h' h'' e "ValueError" → E (.ref e) { s with heap := h'', toks := tk }) : wpAny (model prog w) A (pyNext (.ref m2)) Q E s := by
  have hT : s.TypeIs (.ref m2) "map" := ⟨_, M.hm2, rfl⟩
  unfold pyNext
  refine wpAny_bind (wpAny_attempt (wpAny_callSpecial?_slot (name := Str.ofString "__next__") hT slot_map_next (call_next M.hm2 (map_tree M.hm2 M.ht2 (nextOf_map M.hm1 M.ht1 (wpAny_nextOf_list_item M.hi M.hl hx fun h' hi' hs => ?_))))))
  have M' := M.turn hi' hs
  refine ⟨M'.hm1, int1_fails hr.hn hr.hs hr.hl hr.hz hr.hm hh fun h'' tk e hx' => ?_⟩
  obtain ⟨ob, t, he, hc, hd⟩ := hx'.there
  refine wpAny_bind (wpAny_isInstance (T := "ValueError") (b := false) ⟨ob, he, hc⟩ (by rw [isSubtype_type]; kernel_rfl) ?_)
  exact wpAny_throw (h h' h'' e tk hs hx')
theorem next_end {Q : Option Value → Shared → Prop} (hh : A.handled = none) (M : MapSt s.heap l i1 t1 m1 t2 m2 items i) (hx : items[i]? = none)
    (h : ∀ h', Heap.ExtBut i1 s.heap h' → Q none { s with heap := h' }) : wpAny (model prog w) A (pyNext (.ref m2)) Q E s := by
  have hT : s.TypeIs (.ref m2) "map" := ⟨_, M.hm2, rfl⟩
  unfold pyNext
  refine wpAny_bind (wpAny_attempt (wpAny_callSpecial?_slot (name := Str.ofString "__next__") hT slot_map_next (call_next M.hm2 (map_tree M.hm2 M.ht2 (nextOf_map M.hm1 M.ht1 (wpAny_nextOf_list_end hh M.hi M.hl hx fun h' e hs he => ?_))))))
  obtain ⟨ob, he, hc⟩ := he
  refine wpAny_bind (wpAny_isInstance (T := "StopIteration") (b := true) ⟨ob, he, hc⟩ isSubtype_stop ?_)
  exact wpAny_pure (h h' hs)
end
/-- What the list of texts comes to from a place on. -/
inductive Way (items : Array Value) : Nat → Option (List Str) → Prop
  | done {i : Nat} (h : items[i]? = none) : Way items i (some [])
  | step {i : Nat} {x : Str} {u : Tok} {n : Int} {r : Option (List Str)} (hx : items[i]? = some (.str x u)) (hn : PySem.intText? x = some n) (hl : x.length ≤ 640) (ha : n.natAbs.log2 < 1920) (h : Way items (i + 1) r) : Way items i (r.map (Str.ofString (toString n) :: ·))
  | fail {i : Nat} {x : Str} {u : Tok} (hx : items[i]? = some (.str x u)) (hr : Refused x) : Way items i none
section
variable {prog : Program} {w : World} {A : Around} {l i1 t1 m1 t2 m2 : Addr} {items : Array Value}
theorem ext_loop (hh : A.handled = none) (S : Addr) (res : Value) (hS1 : S ≠ i1) (hSn : ∀ b, b = l ∨ b = i1 ∨ b = t1 ∨ b = m1 ∨ b = t2 ∨ b = m2 → S ≠ b) {i : Nat} {r : Option (List Str)} (W : Way items i r) :
    ∀ (s : Shared) (acc : Array Value) (c : Nat) (R : Result → Shared → Prop), MapSt s.heap l i1 t1 m1 t2 m2 items i → s.heap.get? S = some { cls := .type "list", dict := none, data := .seq acc c, slots := #[] } → acc.size + items.size ≤ 100 + i →
    (match (generalizing := false) r with
      | some out => ∀ h' tk vs c', (∀ b o, b ≠ S → b ≠ i1 → s.heap.get? b = some o → h'.get? b = some o) → h'.get? S = some { cls := .type "list", dict := none, data := .seq (acc ++ vs.toArray) c', slots := #[] } → StrList vs out → R (.ok (.ret res)) { s with heap := h', toks := tk }
      | none => ∀ h' h'' e tk, (∀ b o, b ≠ S → b ≠ i1 → s.heap.get? b = some o → h'.get? b = some o) → Heap.NewExc h' h'' e "ValueError" → R (.error (.ref e)) { s with heap := h'', toks := tk }) →
    codeAny (model prog w) A (.builtin "list.extend.loop" ⟨[.ref S, .ref m2, res], []⟩) R s := by
  induction W with
  | done h =>
    intro s acc c R M hS _ hR
    refine codeAny_builtin F.entry_extend_loop ?_
    rw [Around.under_plainId F.plain_extend_loop _]
    show wpAny _ A.in1 (pyNext (.ref m2) >>= _) _ _ s
    refine wpAny_bind (next_end hh M h fun h' hs => wpAny_pure ?_)
    exact hR h' s.toks [] c (fun b o _ hb e => hs b o hb e) (by simpa using hs S _ hS1 hS) .nil
  | @step i x u n r hx hn hl ha W ih =>
    intro s acc c R M hS hsz hR
    have hlt : i < items.size := (Array.getElem?_eq_some_iff.mp hx).1
    have szl : sizeLine = 16777216 := rfl
    refine codeAny_builtin F.entry_extend_loop ?_
    rw [Around.under_plainId F.plain_extend_loop _]
    show wpAny _ A.in1 (pyNext (.ref m2) >>= _) _ _ s
    refine wpAny_bind (next_item M hx hn hl ha fun h' t tk M' hs => ?_)
    have hS' := (hs.2 S hS1).trans hS
    show wpAny _ A.in1 (updateSeq S (·.push _) >>= _) _ _ _
    refine wpAny_bind ?_
    refine wpAny_updateSeq hS' rfl (wpAny_pure ⟨plainId_quiet F.plain_extend_loop _, ih _ (acc.push (.str (Str.ofString (toString n)) t)) _ R ?m1 (Heap.get?_update_self _ hS' rfl) ?m2 ?m3⟩) (by rw [szl]; omega) (by show (acc.push _).size ≤ _; rw [Array.size_push, szl]; omega)
    case m1 => exact M'.keep fun b o hb e => (Heap.get?_update_other _ _ (hSn b hb)).trans e
    case m2 => rw [Array.size_push]; omega
    case m3 =>
      have kk : ∀ b o, b ≠ S → b ≠ i1 → s.heap.get? b = some o → (h'.update S (Obj.mapSeq (·.push (.str (Str.ofString (toString n)) t)))).get? b = some o := fun b o hb hb1 e => (Heap.get?_update_other _ _ (Ne.symm hb)).trans ((hs.2 b hb1).trans e)
      cases r with
      | none =>
        intro h2 h3 e tk2 hk hx'
        exact hR h2 h3 e tk2 (fun b o hb hb1 e => hk b o hb hb1 (kk b o hb hb1 e)) hx'
      | some out =>
        intro h2 tk2 vs c2 hk hS2 hvs
        exact hR h2 tk2 (.str (Str.ofString (toString n)) t :: vs) c2 (fun b o hb hb1 e => hk b o hb hb1 (kk b o hb hb1 e)) (by rw [hS2]; simp) (.cons hvs)
  | @fail i x u hx hr =>
    intro s acc c R M hS _ hR
    refine codeAny_builtin F.entry_extend_loop ?_
    rw [Around.under_plainId F.plain_extend_loop _]
    show wpAny _ A.in1 (pyNext (.ref m2) >>= _) _ _ s
    refine wpAny_bind (next_fail hh M hx hr fun h' h'' e tk hs hx' => ?_)
    exact hR h' h'' e tk (fun b o _ hb e => (hs.2 b hb).trans e) hx'
theorem list_map {E : Value → Shared → Prop} {s : Shared} {Q : Value → Shared → Prop} (hh : A.handled = none) (M : MapSt s.heap l i1 t1 m1 t2 m2 items 0) {r : Option (List Str)} (W : Way items 0 r) (hsz : items.size ≤ 100)
    (h : match (generalizing := false) r with
      | some out => ∀ D h' tk vs c', D = s.heap.objs.size → (∀ b o, b ≠ i1 → s.heap.get? b = some o → h'.get? b = some o) → h'.get? D = some (listOf vs.toArray c') → StrList vs out → Q (.ref D) { s with heap := h', toks := tk }
      | none => ∀ h' h'' e tk, (∀ b o, b ≠ i1 → s.heap.get? b = some o → h'.get? b = some o) → Heap.NewExc h' h'' e "ValueError" → E (.ref e) { s with heap := h'', toks := tk }) :
    wpAny (model prog w) A (call (.type "list") [.ref m2]) Q E s := by
  have lt : ∀ b, b = l ∨ b = i1 ∨ b = t1 ∨ b = m1 ∨ b = t2 ∨ b = m2 → b < s.heap.objs.size := by
    rintro b (rfl | rfl | rfl | rfl | rfl | rfl)
    · exact let ⟨_, e, _⟩ := M.hl; Heap.lt_size e
    · exact let ⟨_, e, _⟩ := M.hi; Heap.lt_size e
    · exact Heap.lt_size M.ht1
    · exact Heap.lt_size M.hm1
    · exact Heap.lt_size M.ht2
    · exact Heap.lt_size M.hm2
  refine callType_codes (Q₁ := fun obj s₁ => obj = .ref s.heap.objs.size ∧ s₁ = { s with heap := s.heap.push { cls := .type "list", data := .seq #[] } }) F.called_list (F.typeCall_list_1 _) F.entry_list_init
    (code_list_new _ ⟨rfl, rfl⟩) fun obj s₁ h₁ => ?_
  obtain ⟨rfl, rfl⟩ := h₁
  have hS : (s.heap.push { cls := .type "list", data := .seq #[] }).get? s.heap.objs.size = some { cls := .type "list", data := .seq #[] } := Heap.get?_push_size _ rfl
  have M1 : MapSt (s.heap.push { cls := .type "list", data := .seq #[] }) l i1 t1 m1 t2 m2 items 0 := M.keep fun b o _ e => Heap.get?_push_of_some _ e
  generalize hS0 : s.heap.objs.size = S at *
  have hSn : ∀ b, b = l ∨ b = i1 ∨ b = t1 ∨ b = m1 ∨ b = t2 ∨ b = m2 → S ≠ b := fun b hb => Nat.ne_of_gt (lt b hb)
  have old : ∀ b o, s.heap.get? b = some o → b ≠ S := fun b o e => Nat.ne_of_lt (hS0 ▸ Heap.lt_size e)
  refine ⟨⟨_, hS, rfl⟩, F.args_list_init_2 _ _, ?_⟩
  show wpAny _ A.in1.in1 (do let old ← Builtin.List.listItems (.ref S); Builtin.List.listUpdate (.ref S) (fun _ => #[]); letGo old.toList.reverse; Builtin.List.listExtendWith (.ref S) (.ref m2) .none) _ _ _
  refine wpAny_bind ?_
  unfold Builtin.List.listItems
  refine wpAny_bind (wpAny_seqItems hS rfl (wpAny_pure ?_))
  show wpAny _ A.in1.in1 (updateSeq S (fun _ => #[]) >>= fun _ => letGo (#[] : Array Value).toList.reverse >>= fun _ => Builtin.List.listExtendWith (.ref S) (.ref m2) .none) _ _ _
  refine wpAny_bind (wpAny_updateSeq hS rfl ?_)
  have hS₂ := Heap.get?_update_self (Obj.mapSeq (fun _ => (#[] : Array Value))) hS rfl
  have k2 : ∀ b o, b ≠ S → (s.heap.push { cls := .type "list", data := .seq #[] }).get? b = some o → ((s.heap.push { cls := .type "list", data := .seq #[] }).update S (Obj.mapSeq (fun _ => (#[] : Array Value)))).get? b = some o :=
    fun b o hb e => (Heap.get?_update_other _ _ (Ne.symm hb)).trans e
  refine wpAny_bind (wpAny_letGo ?_)
  have M2 := M1.keep fun b o hb e => k2 b o (Ne.symm (hSn b hb)) e
  generalize hH : (s.heap.push { cls := .type "list", data := .seq #[] }).update S (Obj.mapSeq (fun _ => (#[] : Array Value))) = H at *
  have hT : Shared.TypeIs { s with heap := H } (.ref m2) "map" := ⟨_, M2.hm2, rfl⟩
  unfold Builtin.List.listExtendWith
  refine wpAny_bind (wpAny_typeOf hT ?_)
  have h1 : Builtin.List.listSameRef (.ref S) (.ref m2) = false := by simp [Builtin.List.listSameRef, hSn m2 (by simp)]
  have h2 : (Value.type "map" == Value.type "list") = false := by decide
  have h3 : (Value.type "map" == Value.type "tuple") = false := by decide
  simp only [h1, h2, h3, Bool.or_false, Bool.false_eq_true, if_false]
  refine wpAny_bind (map_self M2.hm2 ?_)
  refine wpAny_bind (wpAny_holding ?_)
  unfold Builtin.List.listLengthHint
  refine wpAny_bind (wpAny_specialOf hT nolen_map ?_)
  show wpAny _ _ (specialOf (Value.ref m2) (Str.ofString "__length_hint__") >>= _) _ _ _
  refine wpAny_bind (wpAny_specialOf hT nohint_map ?_)
  refine wpAny_pure ?_
  show wpAny _ _ (rule "list.extend.makes-room" >>= fun _ => Builtin.List.listTouch (.ref S) >>= fun _ => again (.builtin "list.extend.loop" ⟨[.ref S, .ref m2, .none], []⟩)) _ _ _
  refine wpAny_bind (wpAny_rule ?_)
  refine wpAny_bind ?_
  show wpAny _ _ (updateSeq S (·.push .none) >>= fun _ => updateSeq S (·.pop)) _ _ _
  refine wpAny_bind (wpAny_updateSeq hS₂ rfl ?_)
  have hS₃ := Heap.get?_update_self (Obj.mapSeq (·.push Value.none)) hS₂ rfl
  refine wpAny_updateSeq (hz := by seq_fits) hS₃ rfl ?_
  have hS₄ := Heap.get?_update_self (Obj.mapSeq (·.pop)) hS₃ rfl
  have k3 : ∀ b o, b ≠ S → H.get? b = some o → ((H.update S (Obj.mapSeq (·.push Value.none))).update S (Obj.mapSeq (·.pop))).get? b = some o :=
    fun b o hb e => (Heap.get?_update_other _ _ (Ne.symm hb)).trans ((Heap.get?_update_other _ _ (Ne.symm hb)).trans e)
  refine wpAny_pure ⟨plainId_quiet F.plain_extend_loop _, ext_loop (A := A.in1) hh S .none (hSn i1 (by simp)) hSn W _ #[] _ _ (M2.keep fun b o hb e => k3 b o (Ne.symm (hSn b hb)) e) hS₄ (by simp; omega) ?_⟩
  have kall : ∀ b o, s.heap.get? b = some o → ((H.update S (Obj.mapSeq (·.push Value.none))).update S (Obj.mapSeq (·.pop))).get? b = some o := fun b o e => k3 b o (old b o e) (hH ▸ k2 b o (old b o e) (Heap.get?_push_of_some _ e))
  cases r with
  | some out =>
    intro h' tk vs c' hk hS' hvs
    exact ⟨rfl, h S h' tk vs c' rfl (fun b o hb e => hk b o (old b o e) hb (kall b o e)) (by simpa using hS') hvs⟩
  | none =>
    intro h' h'' e tk hk hx
    exact h h' h'' e tk (fun b o hb e => hk b o (old b o e) hb (kall b o e)) hx
end
end Mine
end
theorem Mine.fresh45 : True := by
  w_top off
  trivial
section
open PySem PySem.W PyProof.Rows
set_option maxRecDepth 100000
set_option maxHeartbeats 8000000
namespace Mine

open Rex (StrList)
/-- What a list of texts comes to under map(str, map(int, ..)). -/
inductive WayS : List Str → Option (List Str) → Prop
  | done : WayS [] (some [])
  | step {x : Str} {n : Int} {xs : List Str} {r : Option (List Str)} (hn : PySem.intText? x = some n) (hl : x.length ≤ 640) (ha : n.natAbs.log2 < 1920) (h : WayS xs r) : WayS (x :: xs) (r.map (Str.ofString (toString n) :: ·))
  | fail {x : Str} {xs : List Str} (hr : Refused x) : WayS (x :: xs) none
theorem WayS.way {xs : List Str} {r : Option (List Str)} (w : WayS xs r) : ∀ (pre vs : List Value), StrList vs xs → Way (pre ++ vs).toArray pre.length r := by
  induction w with
  | done =>
    intro pre vs h
    cases h
    exact .done (by simp)
  | @step x n xs r hn hl ha w ih =>
    intro pre vs h
    cases h with
    | @cons _ t vs _ h =>
      have := ih (pre ++ [.str x t]) vs h
      rw [List.append_assoc, List.length_append] at this
      exact .step (u := t) (by simp) hn hl ha this
  | @fail x xs hr =>
    intro pre vs h
    cases h with
    | @cons _ t vs _ h => exact .fail (u := t) (by simp) hr
theorem mapSt_mk (h : Heap) (l : Addr) (items : Array Value) (hl : h.IsList l items) : ∃ z3,
    z3 = (((h.push (itOb l)).push (tupOb h.objs.size)).push (mapOb (h.objs.size + 1) "int")).objs.size ∧
    MapSt ((((((h.push (itOb l)).push (tupOb h.objs.size)).push (mapOb (h.objs.size + 1) "int")).push (tupOb (h.objs.size + 1 + 1))).push (mapOb (((h.push (itOb l)).push (tupOb h.objs.size)).push (mapOb (h.objs.size + 1) "int")).objs.size "str"))) l h.objs.size (h.objs.size + 1) (h.objs.size + 1 + 1) z3 (z3 + 1) items 0 := by
  have z1 : (h.push (itOb l)).objs.size = h.objs.size + 1 := Heap.size_push ..
  have z2 : ((h.push (itOb l)).push (tupOb h.objs.size)).objs.size = h.objs.size + 1 + 1 := by rw [Heap.size_push, z1]
  have z3 : (((h.push (itOb l)).push (tupOb h.objs.size)).push (mapOb (h.objs.size + 1) "int")).objs.size = h.objs.size + 1 + 1 + 1 := by rw [Heap.size_push, z2]
  have z4 : ((((h.push (itOb l)).push (tupOb h.objs.size)).push (mapOb (h.objs.size + 1) "int")).push (tupOb (h.objs.size + 1 + 1))).objs.size = h.objs.size + 1 + 1 + 1 + 1 := by rw [Heap.size_push, z3]
  have hlt : l < h.objs.size := let ⟨_, e, _⟩ := hl; Heap.lt_size e
  refine ⟨_, rfl, ⟨(((((hl.push _).push _).push _).push _).push _), ⟨_, Heap.get?_push_of_some _ (Heap.get?_push_of_some _ (Heap.get?_push_of_some _ (Heap.get?_push_of_some _ (Heap.get?_push_size _ rfl)))), rfl, rfl⟩, ?_, ?_, ?_, ?_, ?_, ?_, ?_, ?_, ?_⟩⟩
  · have := Heap.get?_push_size (h.push (itOb l)) (o := tupOb h.objs.size) rfl
    rw [z1] at this
    exact Heap.get?_push_of_some _ (Heap.get?_push_of_some _ (Heap.get?_push_of_some _ this))
  · have := Heap.get?_push_size ((h.push (itOb l)).push (tupOb h.objs.size)) (o := mapOb (h.objs.size + 1) "int") rfl
    rw [z2] at this
    exact Heap.get?_push_of_some _ (Heap.get?_push_of_some _ this)
  · exact Heap.get?_push_of_some _ (Heap.get?_push_size _ rfl)
  · have := Heap.get?_push_size ((((h.push (itOb l)).push (tupOb h.objs.size)).push (mapOb (h.objs.size + 1) "int")).push (tupOb (h.objs.size + 1 + 1))) (o := mapOb (((h.push (itOb l)).push (tupOb h.objs.size)).push (mapOb (h.objs.size + 1) "int")).objs.size "str") rfl
    rw [z4, ← z3] at this
    exact this
  · exact Nat.ne_of_lt hlt
  · exact Nat.ne_of_gt (Nat.lt_succ_self _)
  · exact Nat.ne_of_gt (Nat.lt_succ_of_lt (Nat.lt_succ_self _))
  · rw [z3]; exact Nat.ne_of_gt (Nat.lt_succ_of_lt (Nat.lt_succ_of_lt (Nat.lt_succ_self _)))
  · rw [z3]; exact Nat.ne_of_gt (Nat.lt_succ_of_lt (Nat.lt_succ_of_lt (Nat.lt_succ_of_lt (Nat.lt_succ_self _))))
abbrev H5 (h : Heap) (l : Addr) : Heap := (((((h.push (itOb l)).push (tupOb h.objs.size)).push (mapOb (h.objs.size + 1) "int")).push (tupOb (h.objs.size + 1 + 1))).push (mapOb (((h.push (itOb l)).push (tupOb h.objs.size)).push (mapOb (h.objs.size + 1) "int")).objs.size "str"))
theorem fr5 {h₀ h : Heap} {L : Addr} {m : Str → Option Value} (l : Addr) (F : Fr h₀ L h m) : Fr h₀ L (H5 h l) m := ((((F.push _).push _).push _).push _).push _
theorem up5 {h : Heap} {b : Addr} {o : Obj} (l : Addr) (e : h.get? b = some o) : (H5 h l).get? b = some o := Heap.get?_push_of_some _ (Heap.get?_push_of_some _ (Heap.get?_push_of_some _ (Heap.get?_push_of_some _ (Heap.get?_push_of_some _ e))))
theorem mapAt (h : Heap) (l : Addr) : (((h.push (itOb l)).push (tupOb h.objs.size)).push (mapOb (h.objs.size + 1) "int")).get? (h.objs.size + 1 + 1) = some (mapOb (h.objs.size + 1) "int") := by
  have z2 : ((h.push (itOb l)).push (tupOb h.objs.size)).objs.size = h.objs.size + 1 + 1 := by rw [Heap.size_push, Heap.size_push]
  have := Heap.get?_push_size ((h.push (itOb l)).push (tupOb h.objs.size)) (o := mapOb (h.objs.size + 1) "int") rfl
  rw [z2] at this
  exact this
theorem strList_values : ∀ l : List (Str × Tok), StrList (strValues l) (l.map (·.1))
  | [] => .nil
  | (x, t) :: l => .cons (strList_values l)
theorem strsAre_values : ∀ l : List (Str × Tok), StrsAre (strValues l) (l.map (fun x => x.1))
  | [] => .nil
  | (x, t) :: l => .cons x t (strsAre_values l)
theorem strList_back : ∀ {vs : List Value} {xs : List Str}, StrList vs xs → ∃ l : List (Str × Tok), vs = strValues l ∧ l.map (·.1) = xs
  | _, _, .nil => ⟨[], rfl, rfl⟩
  | _, _, @StrList.cons x t _ _ h => by
    obtain ⟨l, e1, e2⟩ := strList_back h
    exact ⟨(x, t) :: l, by rw [e1]; rfl, by rw [← e2]; rfl⟩
theorem WayS.len : ∀ {xs : List Str} {r : Option (List Str)}, WayS xs r → ∀ {out}, r = some out → out.length = xs.length := by
  intro xs r w
  induction w with
  | done => intro out e; cases e; rfl
  | @step x n xs r hn hl ha w ih =>
    intro out e
    cases r with
    | none => cases e
    | some o => cases e; simp [ih rfl]
  | fail => intro out e; cases e
theorem strsAre_take : ∀ {vs : List Value} {ys : List Str}, StrsAre vs ys → ∀ n, StrsAre (vs.take n) (ys.take n)
  | _, _, .nil, n => by simpa using StrsAre.nil
  | _, _, .cons y t h, 0 => .nil
  | _, _, .cons y t h, n + 1 => .cons y t (strsAre_take h n)
theorem pick3 {vs : List Value} {ys : List Str} (h : StrsAre vs ys) : StrsAre (slicePick vs.toArray none (some 3) none).toList (ys.take 3) := by
  show StrsAre (slicePick vs.toArray none (some ((3 : Nat) : Int)) none).toList _
  rw [slicePick_upto']
  simpa using strsAre_take h 3
theorem weight3 {ys : List Str} (h : ∀ y ∈ ys.take 3, y.length ≤ 100) : (((ys.take 3).map (·.length)).sum + (ys.take 3).length) ≤ 1048576 := by
  have h3 : (ys.take 3).length ≤ 3 := by rw [List.length_take]; omega
  generalize ys.take 3 = zs at h h3
  match zs, h3 with
  | [], _ => simp
  | [a], _ => have := h a (by simp); simp; omega
  | [a, b], _ => have := h a (by simp); have := h b (by simp); simp; omega
  | [a, b, c], _ => have := h a (by simp); have := h b (by simp); have := h c (by simp); simp; omega
theorem c_norm1 (w : World) (news) (ver : Str) (t1 : Tok) (r : Option (List Str)) (hv : ver.length < 80) (hs9 : (Txt.split ver (Str.ofString ".")).length ≤ 90) (hwt : ∀ y ∈ (r.getD (Txt.split ver (Str.ofString "."))).take 3, y.length ≤ 100) (W : WayS (Txt.split ver (Str.ofString ".")) r) :
   TellsF w 52 news [.str ver t1] (fun new v => new = [] ∧ ∃ t, v = .str (Txt.join (Str.ofString ".") ((r.getD (Txt.split ver (Str.ofString "."))).take 3)) t) := by
  unfold TellsF
  intro mean mg mb dp un gd cn cs a ccd cl outer frs h₀ L m s Q E Fs F X N T hk hd hu hap hret
  refine wpAny_call ?_
  have kf : Fill PySem.Challenge.rw_wn0026_01 Mine.hd.heap_39 := by (k_fill; exact trivial)
  clear kf
  k_dflt (refine' codeF_def ?k2 ?k3 ?k4 ?k5 ?kA ?kS ?kF ?kK ?kQ ?k6 ?k7 ?k8 ?k9 ?kB ?_ ?c2 ?c3 ?c4 ?c5; (case kA => exact rfl); (case kF => exact rfl); (case kK => assumption); (case k2 => k_asm); (case k3 => k_asm); (case k4 => exact N); (case k5 => k_asm); (case kS => exact Fs); (case kQ => exact hap); (case k6 => k_is); (case k7 => k_is); (case k8 => ktr_room); (case k9 => exact binds_K (X.keeps F.keep) rfl (by k_is) rfl rfl rfl); (case c5 => decide); (case kB => exact locs rfl); (case c2 => exact rfl); (case c3 => exact rfl); (case c4 => exact rfl); k_whole)
  intro oL L' h' AT
  have F' := AT.hfr
  have N' := AT.hnews
  (try dsimp only)
  (try k_fold)
  k_steps
  rename List (Str × Tok) => l8
  have hsp : l8.map (fun x => x.1) = Txt.split ver (Str.ofString ".") := by assumption
  have W8 : Way (strValues l8).toArray 0 r := by
    have := W.way [] (strValues l8) (hsp ▸ strList_values l8)
    simpa using this
  rename Fr _ _ _ _ => F1
  rename News _ _ _ _ => N1
  rename Heap => h8
  have hl8 : h8.IsList h'.objs.size (strValues l8).toArray := ⟨_, (N1 _ (.head _)).1, rfl, _, rfl⟩
  obtain ⟨z3, hz3, M⟩ := mapSt_mk h8 _ _ hl8
  refine call_map_list hl8 ?_
  k_steps
  refine call_map_map (mapAt h8 h'.objs.size) ?_
  k_steps
  subst hz3
  have hlen : (strValues l8).toArray.size ≤ 100 := by
    have e : (strValues l8).length = l8.length := by unfold strValues; simp
    have e2 : l8.length = (Txt.split ver (Str.ofString ".")).length := by rw [← hsp, List.length_map]
    rw [List.size_toArray, e, e2]
    omega
  have i1L : L' ≠ h8.objs.size := Nat.ne_of_lt F1.ns.lt
  have i1n : h₀.get? h8.objs.size = none := next_is_new F1
  refine list_map rfl M W8 hlen ?_
  cases r with
  | some out =>
    intro D9 h9 tk9 vs9 c9 hD9 hk9 hS9 hvs9
    obtain ⟨l9, rfl, hl9⟩ := strList_back hvs9
    have F5 := fr5 h'.objs.size F1
    have F9 := fr_ext F5 hk9 i1n i1L
    have N9 : News h₀ L' h9 ((D9, PySem.W.listOf (strValues l9).toArray c9) :: (news ++ (L, oL) :: frs)) := fun p hp => by
      rcases List.mem_cons.mp hp with rfl | hp
      · exact ⟨hS9, hD9 ▸ Nat.ne_of_gt F5.ns.lt, hD9 ▸ next_is_new F5⟩
      · obtain ⟨a1, a2, a3⟩ := N1 p (.tail _ hp)
        exact ⟨hk9 _ _ (Nat.ne_of_lt (Heap.lt_size a1)) (up5 _ a1), a2, a3⟩
    have sa9 : StrsAre (strValues l9) (l9.map (fun x => x.1)) := strsAre_values l9
    have hlen9 : (strValues l9).toArray.size ≤ 100 := by
      have e : (strValues l9).length = l9.length := by unfold strValues; simp
      have e2 : l9.length = out.length := by rw [← hl9, List.length_map]
      rw [List.size_toArray, e, e2, W.len rfl]
      omega
    clear F5 F1 N1 M hk9 hS9 hl8 W8 hvs9
    k_steps
    rename Fr _ _ _ _ => F7
    rename News _ _ _ _ => N7
    refine join_listW (ys := out.take 3) ⟨_, (N7 _ (.head _)).1, rfl, _, rfl⟩ ?sa1 (by decide) ?wt1 fun t7 k7 => ?_
    case sa1 => rw [← hl9]; exact pick3 sa9
    case wt1 => exact weight3 hwt
    k_steps
    dsimp only
    rename Fr _ _ _ _ => F11
    rename News _ _ _ _ => N11
    rename Heap => h11
    obtain ⟨frs', Fh, SUh, Fsh, Nh, hlt⟩ := AT.home (s' := { s with heap := h11, toks := 0 }) (new := []) F11 (TI.SameUp.refl _) (fun p hp => N11 p (.tail _ (.tail _ hp))) (fun _ _ _ h => nomatch h)
    exact hret _ _ _ [] frs' Fh SUh Fsh Nh (fun _ _ _ h => nomatch h) ⟨rfl, _, rfl⟩
  | none =>
    intro h9 h10 e9 tk9 hk9 hx9
    have F5 := fr5 h'.objs.size F1
    have F9 := fr_ext F5 hk9 i1n i1L
    have N9 : News h₀ L' h9 (((h'.objs.size, _) :: news) ++ ((L, oL) :: frs)) := fun p hp => by
      obtain ⟨a1, a2, a3⟩ := N1 p hp
      exact ⟨hk9 _ _ (Nat.ne_of_lt (Heap.lt_size a1)) (up5 _ a1), a2, a3⟩
    clear F5 F1 N1
    refine TLg.noted_newA (frs := (L, oL) :: frs) rfl AT.hfrs hx9 F9 N9 ?hap fun h6 frs6 SU6 Fs6 H6 => ?_
    case hap =>
      intro p hp hq
      rcases List.mem_cons.mp hq with hq | hq
      · exact (N9 p (List.mem_append_left _ hp)).2.1 hq
      · rcases List.mem_cons.mp hp with rfl | hp
        · obtain ⟨q, hq1, hq2⟩ := List.mem_map.mp hq
          have := Heap.lt_size (AT.hnews q (List.mem_append_right _ hq1)).1
          exact absurd hq2 (Nat.ne_of_lt this)
        · exact AT.apart p hp hq
    refine TT.HeldNA.land H6 fun h7 H7 => ?_
    refine TT.clause_hitTN H7 T (k := fun h8 F8 N8 => ?_)
    k_steps
    rename Fr _ _ _ _ => F7
    rename News _ _ _ _ => N7
    refine join_listW (ys := (Txt.split ver (Str.ofString ".")).take 3) ⟨_, (N7 _ (.head _)).1, rfl, _, rfl⟩ ?sa2 (by decide) ?wt2 fun t7 k7 => ?_
    case sa2 => rw [← hsp]; exact pick3 (strsAre_values l8)
    case wt2 => exact weight3 hwt
    k_steps
    dsimp only
    rename Fr _ _ _ _ => F11
    rename News _ _ _ _ => N11
    rename Heap => h11
    obtain ⟨frs', Fh, SUh, Fsh, Nh, hlt⟩ := AT.home (s' := { s with heap := h11, toks := 0 }) (new := []) F11 SU6 (fun p hp => N11 p (.tail _ (.tail _ hp))) (fun _ _ _ h => nomatch h)
    exact hret _ _ _ [] frs' Fh SUh Fsh Nh (fun _ _ _ h => nomatch h) ⟨rfl, _, rfl⟩
end Mine
end
theorem Mine.fresh46 : True := by
  w_top off
  trivial
section
open PySem PySem.W PyProof.Rows
set_option maxRecDepth 100000
set_option maxHeartbeats 8000000
namespace Mine

open Rex (StrList)
def NonEmpty (x : Str) : Prop := x.length ≠ 0
theorem c_norm2 (w : World) (news) (ver bld : Str) (t1 t2 : Tok) (r : Option (List Str)) (hb : NonEmpty bld) (hbl : bld.length < 20) (hv : ver.length < 80) (hs9 : (Txt.split ver (Str.ofString ".")).length ≤ 80) (hwt : ∀ y ∈ (r.getD (Txt.split ver (Str.ofString ".") ++ [bld])).take 3, y.length ≤ 100) (W : WayS (Txt.split ver (Str.ofString ".") ++ [bld]) r) :
   TellsF w 52 news [.str ver t1, .str bld t2] (fun new v => new = [] ∧ ∃ t, v = .str (Txt.join (Str.ofString ".") ((r.getD (Txt.split ver (Str.ofString ".") ++ [bld])).take 3)) t) := by
  unfold TellsF
  intro mean mg mb dp un gd cn cs a ccd cl outer frs h₀ L m s Q E Fs F X N T hk hd hu hap hret
  refine wpAny_call ?_
  have kf : Fill PySem.Challenge.rw_wn0026_01 Mine.hd.heap_39 := by (k_fill; exact trivial)
  clear kf
  k_dflt (refine' codeF_def ?k2 ?k3 ?k4 ?k5 ?kA ?kS ?kF ?kK ?kQ ?k6 ?k7 ?k8 ?k9 ?kB ?_ ?c2 ?c3 ?c4 ?c5; (case kA => exact rfl); (case kF => exact rfl); (case kK => assumption); (case k2 => k_asm); (case k3 => k_asm); (case k4 => exact N); (case k5 => k_asm); (case kS => exact Fs); (case kQ => exact hap); (case k6 => k_is); (case k7 => k_is); (case k8 => ktr_room); (case k9 => exact binds_K (X.keeps F.keep) rfl (by k_is) rfl rfl rfl); (case c5 => decide); (case kB => exact locs rfl); (case c2 => exact rfl); (case c3 => exact rfl); (case c4 => exact rfl); k_whole)
  intro oL L' h' AT
  have F' := AT.hfr
  have N' := AT.hnews
  (try dsimp only)
  (try k_fold)
  k_steps
  rotate_left
  · unfold NonEmpty at hb; omega
  rename List (Str × Tok) => l7
  have hsp7 : l7.map (fun x => x.1) = Txt.split ver (Str.ofString ".") := by assumption
  have hlen7 : l7.length ≤ 80 := by
    have e2 : l7.length = (Txt.split ver (Str.ofString ".")).length := by rw [← hsp7, List.length_map]
    rw [e2]; exact hs9
  have hsv : (strValues l7).length = l7.length := by unfold strValues; simp
  rename Fr _ _ _ _ => F0
  rename News _ _ _ _ => N0
  have hne : ∀ p ∈ news ++ (L, oL) :: frs, p.1 ≠ h'.objs.size := fun p hp => Nat.ne_of_lt (Heap.lt_size (AT.hnews p hp).1)
  have N0' : News h₀ L' _ ((h'.objs.size, PySem.W.listOf (strValues l7).toArray 0) :: (news ++ (L, oL) :: frs)) := N0
  refine append_K (its := (strValues l7).toArray) (n := 0) F0 N0' (Upd.head hne) (fun h8 F1 N1 => ?_) ?sz
  case sz => show (strValues l7).toArray.size ≤ sizeLine; rw [List.size_toArray, hsv, show sizeLine = 16777216 from rfl]; omega
  have hpush : (strValues l7).toArray.push (Value.str bld t2) = (strValues (l7 ++ [(bld, t2)])).toArray := by unfold strValues; simp
  rw [hpush] at N1
  have hsp : (l7 ++ [(bld, t2)]).map (fun x => x.1) = Txt.split ver (Str.ofString ".") ++ [bld] := by rw [List.map_append, hsp7]; rfl
  have hlen8 : (l7 ++ [(bld, t2)]).length ≤ 90 := by rw [List.length_append]; simp; omega
  generalize l7 ++ [(bld, t2)] = l8 at N1 hsp hlen8
  have W8 : Way (strValues l8).toArray 0 r := by
    have := W.way [] (strValues l8) (hsp ▸ strList_values l8)
    simpa using this
  clear F0 N0 N0' hpush
  k_steps
  have hl8 : h8.IsList h'.objs.size (strValues l8).toArray := ⟨_, (N1 _ (.head _)).1, rfl, _, rfl⟩
  obtain ⟨z3, hz3, M⟩ := mapSt_mk h8 _ _ hl8
  refine call_map_list hl8 ?_
  k_steps
  refine call_map_map (mapAt h8 h'.objs.size) ?_
  k_steps
  subst hz3
  have hlen : (strValues l8).toArray.size ≤ 100 := by
    have e : (strValues l8).length = l8.length := by unfold strValues; simp
    rw [List.size_toArray, e]
    omega
  have i1L : L' ≠ h8.objs.size := Nat.ne_of_lt F1.ns.lt
  have i1n : h₀.get? h8.objs.size = none := next_is_new F1
  refine list_map rfl M W8 hlen ?_
  cases r with
  | some out =>
    intro D9 h9 tk9 vs9 c9 hD9 hk9 hS9 hvs9
    obtain ⟨l9, rfl, hl9⟩ := strList_back hvs9
    have F5 := fr5 h'.objs.size F1
    have F9 := fr_ext F5 hk9 i1n i1L
    have N9 : News h₀ L' h9 ((D9, PySem.W.listOf (strValues l9).toArray c9) :: (news ++ (L, oL) :: frs)) := fun p hp => by
      rcases List.mem_cons.mp hp with rfl | hp
      · exact ⟨hS9, hD9 ▸ Nat.ne_of_gt F5.ns.lt, hD9 ▸ next_is_new F5⟩
      · obtain ⟨a1, a2, a3⟩ := N1 p (.tail _ hp)
        exact ⟨hk9 _ _ (Nat.ne_of_lt (Heap.lt_size a1)) (up5 _ a1), a2, a3⟩
    have sa9 : StrsAre (strValues l9) (l9.map (fun x => x.1)) := strsAre_values l9
    have hlen9 : (strValues l9).toArray.size ≤ 100 := by
      have e : (strValues l9).length = l9.length := by unfold strValues; simp
      have e2 : l9.length = out.length := by rw [← hl9, List.length_map]
      rw [List.size_toArray, e, e2, W.len rfl, List.length_append]
      simp
      omega
    clear F5 F1 N1 M hk9 hS9 hl8 W8 hvs9
    k_steps
    rename Fr _ _ _ _ => F7
    rename News _ _ _ _ => N7
    refine join_listW (ys := out.take 3) ⟨_, (N7 _ (.head _)).1, rfl, _, rfl⟩ ?sa1 (by decide) ?wt1 fun t7 k7 => ?_
    case sa1 => rw [← hl9]; exact pick3 sa9
    case wt1 => exact weight3 hwt
    k_steps
    dsimp only
    rename Fr _ _ _ _ => F11
    rename News _ _ _ _ => N11
    rename Heap => h11
    obtain ⟨frs', Fh, SUh, Fsh, Nh, hlt⟩ := AT.home (s' := { s with heap := h11, toks := 0 }) (new := []) F11 (TI.SameUp.refl _) (fun p hp => N11 p (.tail _ (.tail _ hp))) (fun _ _ _ h => nomatch h)
    exact hret _ _ _ [] frs' Fh SUh Fsh Nh (fun _ _ _ h => nomatch h) ⟨rfl, _, rfl⟩
  | none =>
    intro h9 h10 e9 tk9 hk9 hx9
    have F5 := fr5 h'.objs.size F1
    have F9 := fr_ext F5 hk9 i1n i1L
    have N9 : News h₀ L' h9 (((h'.objs.size, _) :: news) ++ ((L, oL) :: frs)) := fun p hp => by
      obtain ⟨a1, a2, a3⟩ := N1 p hp
      exact ⟨hk9 _ _ (Nat.ne_of_lt (Heap.lt_size a1)) (up5 _ a1), a2, a3⟩
    clear F5 F1 N1
    refine TLg.noted_newA (frs := (L, oL) :: frs) rfl AT.hfrs hx9 F9 N9 ?hap fun h6 frs6 SU6 Fs6 H6 => ?_
    case hap =>
      intro p hp hq
      rcases List.mem_cons.mp hq with hq | hq
      · exact (N9 p (List.mem_append_left _ hp)).2.1 hq
      · rcases List.mem_cons.mp hp with rfl | hp
        · obtain ⟨q, hq1, hq2⟩ := List.mem_map.mp hq
          have := Heap.lt_size (AT.hnews q (List.mem_append_right _ hq1)).1
          exact absurd hq2 (Nat.ne_of_lt this)
        · exact AT.apart p hp hq
    refine TT.HeldNA.land H6 fun h7 H7 => ?_
    refine TT.clause_hitTN H7 T (k := fun h8 F8 N8 => ?_)
    k_steps
    rename Fr _ _ _ _ => F7
    rename News _ _ _ _ => N7
    refine join_listW (ys := (Txt.split ver (Str.ofString ".") ++ [bld]).take 3) ⟨_, (N7 _ (.head _)).1, rfl, _, rfl⟩ ?sa2 (by decide) ?wt2 fun t7 k7 => ?_
    case sa2 => rw [← hsp]; exact pick3 (strsAre_values l8)
    case wt2 => exact weight3 hwt
    k_steps
    dsimp only
    rename Fr _ _ _ _ => F11
    rename News _ _ _ _ => N11
    rename Heap => h11
    obtain ⟨frs', Fh, SUh, Fsh, Nh, hlt⟩ := AT.home (s' := { s with heap := h11, toks := 0 }) (new := []) F11 SU6 (fun p hp => N11 p (.tail _ (.tail _ hp))) (fun _ _ _ h => nomatch h)
    exact hret _ _ _ [] frs' Fh SUh Fsh Nh (fun _ _ _ h => nomatch h) ⟨rfl, _, rfl⟩
end Mine
end
theorem Mine.fresh47 : True := by
  w_top off
  trivial
section
open PySem PySem.W PyProof.Rows
set_option maxRecDepth 100000
set_option maxHeartbeats 8000000
namespace Mine

def cd (x : Str) : List Nat := x.cps.toList
theorem cd_app (x y : Str) : cd (x ++ y) = cd x ++ cd y := by
  show (x.cps ++ y.cps).toList = _
  rw [Array.toList_append]; rfl
theorem cd_inj {x y : Str} (h : cd x = cd y) : x = y := PySem.Str.ext' (Array.ext' h)
theorem cd_dot : cd (Str.ofString ".") = [46] := by decide +kernel
/-- Texts without a point, split again. -/
def jc : List (List Nat) → List Nat
  | [] => []
  | [x] => x
  | x :: r => x ++ 46 :: jc r
theorem jc_cons (x y : List Nat) (r : List (List Nat)) : jc (x :: y :: r) = x ++ 46 :: jc (y :: r) := rfl
theorem head_eq : ∀ {a b s t : List Nat}, 46 ∉ a → 46 ∉ b → a ++ 46 :: s = b ++ 46 :: t → a = b ∧ s = t
  | [], [], _, _, _, _, h => ⟨rfl, (List.cons.inj h).2⟩
  | [], y :: b, _, _, _, hb, h => absurd ((List.cons.inj h).1 ▸ List.mem_cons_self) hb
  | x :: a, [], _, _, ha, _, h => absurd ((List.cons.inj h).1.symm ▸ List.mem_cons_self) ha
  | x :: a, y :: b, s, t, ha, hb, h => by
    obtain ⟨e1, e2⟩ := List.cons.inj h
    obtain ⟨e3, e4⟩ := head_eq (fun m => ha (.tail _ m)) (fun m => hb (.tail _ m)) e2
    exact ⟨by rw [e1, e3], e4⟩
theorem jc_inj : ∀ {ps qs : List (List Nat)}, (∀ p ∈ ps, 46 ∉ p) → (∀ q ∈ qs, 46 ∉ q) → ps ≠ [] → qs ≠ [] → jc ps = jc qs → ps = qs
  | [], _, _, _, h, _, _ => absurd rfl h
  | _, [], _, _, _, h, _ => absurd rfl h
  | [x], [y], _, _, _, _, h => by rw [show x = y from h]
  | [x], y :: z :: r, hp, _, _, _, h => by
    rw [jc_cons] at h
    exact absurd ((show x = _ from h) ▸ List.mem_append_right _ List.mem_cons_self) (hp x (.head _))
  | x :: z :: r, [y], _, hq, _, _, h => by
    rw [jc_cons] at h
    exact absurd ((show _ = y from h) ▸ List.mem_append_right _ List.mem_cons_self) (hq y (.head _))
  | x :: x' :: r, y :: y' :: r', hp, hq, _, _, h => by
    rw [jc_cons, jc_cons] at h
    obtain ⟨e1, e2⟩ := head_eq (hp x (.head _)) (hq y (.head _)) h
    rw [e1, jc_inj (fun p m => hp p (.tail _ m)) (fun q m => hq q (.tail _ m)) (by simp) (by simp) e2]
theorem cd_join : ∀ ps : List Str, cd (Str.join (Str.ofString ".") ps) = jc (ps.map cd)
  | [] => rfl
  | [x] => rfl
  | x :: y :: r => by
    show cd (x ++ Str.ofString "." ++ Str.join (Str.ofString ".") (y :: r)) = _
    rw [cd_app, cd_app, cd_dot, cd_join (y :: r)]
    show cd x ++ [46] ++ jc (cd y :: List.map cd r) = cd x ++ 46 :: jc (cd y :: List.map cd r)
    rw [List.append_assoc]
    rfl
theorem split_of {x : Str} {fs : List Str} (hf : ∀ f ∈ fs, 46 ∉ cd f) (hne : fs ≠ []) (h : cd x = jc (fs.map cd)) : Txt.split x (Str.ofString ".") = fs := by
  have hdot : Str.ofString "." = ⟨#[46]⟩ := by decide +kernel
  have hj := StrLaws.join_split x (Str.ofString ".")
  have hfree := StrLaws.split_free x 46
  have hpos := PyProof.Rows.split_pos x (Str.ofString ".")
  have e : jc ((Txt.split x (Str.ofString ".")).map cd) = jc (fs.map cd) := by rw [← cd_join, hj, h]
  have e2 := jc_inj (fun p hp => by
    obtain ⟨q, hq, rfl⟩ := List.mem_map.mp hp
    rw [hdot] at hq
    exact hfree q hq) (fun p hp => by
    obtain ⟨q, hq, rfl⟩ := List.mem_map.mp hp
    exact hf q hq) (by intro q; have := congrArg List.length q; simp at this; rw [this] at hpos; simp at hpos) (by intro q; exact hne (List.map_eq_nil_iff.mp q)) e
  have : ∀ {l l' : List Str}, l.map cd = l'.map cd → l = l' := by
    intro l
    induction l with
    | nil => intro l' h; cases l' with | nil => rfl | cons _ _ => simp at h
    | cons a l ih => intro l' h; cases l' with
      | nil => simp at h
      | cons b l' =>
        rw [List.map_cons, List.map_cons] at h
        obtain ⟨h1, h2⟩ := List.cons.inj h
        rw [cd_inj h1, ih h2]
  exact this e2
theorem split_one {x : Str} (h : 46 ∉ cd x) : Txt.split x (Str.ofString ".") = [x] :=
  split_of (fun f hf => by rw [List.mem_singleton.mp hf]; exact h) (by simp) rfl
end Mine
end
theorem Mine.fresh48 : True := by
  w_top off
  trivial
section
open PySem PySem.W PyProof.Rows
set_option maxRecDepth 100000
set_option maxHeartbeats 8000000
namespace Mine

abbrev nS (k : Nat) : Str := Str.ofString (toString ((k : Nat) : Int))
theorem no_dot : ∀ k : Fin 100, 46 ∉ cd (nS k) := by decide +kernel
theorem nod {k : Nat} (hk : k < 100) (p : Str) (hp : 46 ∉ cd p) : 46 ∉ cd (p ++ nS k) := by
  rw [cd_app]
  exact fun h => (List.mem_append.mp h).elim hp (no_dot ⟨k, hk⟩)
theorem f1 (k : Nat) (hk : k < 100) : Txt.split (Str.ofString "0" ++ nS k) (Str.ofString ".") = [Str.ofString "0" ++ nS k] ∧ Txt.split (Str.ofString "+0" ++ nS k) (Str.ofString ".") = [Str.ofString "+0" ++ nS k] ∧
    Txt.split (Str.ofString "0" ++ nS k ++ Str.ofString ".07.+007.8") (Str.ofString ".") = [Str.ofString "0" ++ nS k, Str.ofString "07", Str.ofString "+007", Str.ofString "8"] :=
  ⟨split_one (nod hk _ (by decide +kernel)), split_one (nod hk _ (by decide +kernel)), split_of (fun f hf => by
    simp only [List.mem_cons, List.not_mem_nil, or_false] at hf
    rcases hf with rfl | rfl | rfl | rfl
    · exact nod hk _ (by decide +kernel)
    · decide +kernel
    · decide +kernel
    · decide +kernel) (by simp) (by
    rw [cd_app, show cd (Str.ofString ".07.+007.8") = 46 :: (cd (Str.ofString "07") ++ 46 :: (cd (Str.ofString "+007") ++ 46 :: cd (Str.ofString "8"))) by decide +kernel]; rfl)⟩
theorem f2d : ∀ k : Fin 100, PySem.intText? (Str.ofString "0" ++ nS k) = some ((k : Nat) : Int) ∧ PySem.intText? (Str.ofString "+0" ++ nS k) = some ((k : Nat) : Int) ∧ PySem.intText? (nS k) = some ((k : Nat) : Int) ∧ (nS k).length ≤ 2 ∧
    (Str.ofString "0" ++ nS k).length ≤ 3 ∧ (Str.ofString "+0" ++ nS k).length ≤ 4 ∧ (Str.ofString "0" ++ nS k ++ Str.ofString ".07.+007.8").length ≤ 20 := by decide +kernel
theorem f2 (k : Nat) (hk : k < 100) : PySem.intText? (Str.ofString "0" ++ nS k) = some ((k : Nat) : Int) ∧ PySem.intText? (Str.ofString "+0" ++ nS k) = some ((k : Nat) : Int) ∧ PySem.intText? (nS k) = some ((k : Nat) : Int) ∧ (nS k).length ≤ 2 ∧
    (Str.ofString "0" ++ nS k).length ≤ 3 ∧ (Str.ofString "+0" ++ nS k).length ≤ 4 ∧ (Str.ofString "0" ++ nS k ++ Str.ofString ".07.+007.8").length ≤ 20 := f2d ⟨k, hk⟩
theorem app_lit (x : Str) {a b c : Str} (e : a ++ b = c) : x ++ a ++ b = x ++ c := by rw [Str.append_assoc, e]
theorem f3 (k : Nat) (hk : k < 100) : Txt.join (Str.ofString ".") [nS k] = nS k ∧ Txt.join (Str.ofString ".") [nS k, Str.ofString "7"] = nS k ++ Str.ofString ".7" ∧ Txt.join (Str.ofString ".") [Str.ofString "0" ++ nS k, Str.ofString "0.07"] = Str.ofString "0" ++ nS k ++ Str.ofString ".0.07" ∧
    Txt.join (Str.ofString ".") [Str.ofString "0" ++ nS k, Str.ofString "07", Str.ofString "+007"] = Str.ofString "0" ++ nS k ++ Str.ofString ".07.+007" ∧ Txt.join (Str.ofString ".") [nS k, Str.ofString "7", Str.ofString "7"] = nS k ++ Str.ofString ".7.7" :=
  ⟨rfl, app_lit _ (by decide +kernel), app_lit _ (by decide +kernel),
   (show (Str.ofString "0" ++ nS k ++ Str.ofString "." ++ Str.ofString "07") ++ Str.ofString "." ++ Str.ofString "+007" = _ by rw [app_lit _ (show Str.ofString "." ++ Str.ofString "07" = Str.ofString ".07" by decide +kernel), app_lit _ (show Str.ofString ".07" ++ Str.ofString "." = Str.ofString ".07." by decide +kernel), app_lit _ (show Str.ofString ".07." ++ Str.ofString "+007" = Str.ofString ".07.+007" by decide +kernel)]),
   (show (nS k ++ Str.ofString "." ++ Str.ofString "7") ++ Str.ofString "." ++ Str.ofString "7" = _ by rw [app_lit (nS k) (show Str.ofString "." ++ Str.ofString "7" = Str.ofString ".7" by decide +kernel), app_lit (nS k) (show Str.ofString ".7" ++ Str.ofString "." = Str.ofString ".7." by decide +kernel), app_lit (nS k) (show Str.ofString ".7." ++ Str.ofString "7" = Str.ofString ".7.7" by decide +kernel)])⟩
theorem small_log (k : Nat) (h : k < 100) : ((k : Nat) : Int).natAbs.log2 < 1920 := by
  have e : ((k : Nat) : Int).natAbs = k := Int.natAbs_natCast k
  rw [e]
  exact Nat.lt_of_le_of_lt (Nat.log2_le_self k) (by omega)
theorem refC : Refused (Str.ofString "C") := ⟨by decide +kernel, by decide +kernel, by decide +kernel, by decide +kernel, by decide +kernel⟩
theorem ref07 : Refused (Str.ofString "0.07") := ⟨by decide +kernel, by decide +kernel, by decide +kernel, by decide +kernel, by decide +kernel⟩
theorem i007 : PySem.intText? (Str.ofString "007") = some 7 ∧ PySem.intText? (Str.ofString "07") = some 7 ∧ PySem.intText? (Str.ofString "+007") = some 7 ∧ PySem.intText? (Str.ofString "8") = some 8 ∧ PySem.intText? (Str.ofString "09") = some 9 := by decide +kernel
/-- The two contracts of _norm_version with their results written. -/
theorem n1 (w : World) (news) (k : Nat) (hk : k < 100) (t : Tok) : TellsF w 52 news [.str (Str.ofString "0" ++ nS k) t] (fun new v => new = [] ∧ ∃ t, v = .str (nS k) t) := by
  obtain ⟨a1, _⟩ := f1 k hk
  obtain ⟨b1, b2, b3, b4, b5, b6, _⟩ := f2 k hk
  obtain ⟨c1, _⟩ := f3 k hk
  have W : WayS (Txt.split (Str.ofString "0" ++ nS k) (Str.ofString ".")) (some [nS k]) := by
    rw [a1]; exact .step (r := some []) b1 (by omega) (small_log k hk) .done
  have C := c_norm1 w news (Str.ofString "0" ++ nS k) t (some [nS k]) (by omega) (by rw [a1]; simp) (by intro y hy; have : y = nS k := (by simpa using hy); rw [this]; omega) W
  have e : Txt.join (Str.ofString ".") (((some [nS k]).getD (Txt.split (Str.ofString "0" ++ nS k) (Str.ofString "."))).take 3) = nS k := c1
  rw [e] at C
  exact C
theorem n2 (w : World) (news) (k : Nat) (hk : k < 100) (t u : Tok) : TellsF w 52 news [.str (Str.ofString "+0" ++ nS k) t, .str (Str.ofString "007") u] (fun new v => new = [] ∧ ∃ t, v = .str (nS k ++ Str.ofString ".7") t) := by
  obtain ⟨_, a1, _⟩ := f1 k hk
  obtain ⟨b1, b2, b3, b4, b5, b6, _⟩ := f2 k hk
  obtain ⟨_, c1, _⟩ := f3 k hk
  have W : WayS (Txt.split (Str.ofString "+0" ++ nS k) (Str.ofString ".") ++ [Str.ofString "007"]) (some [nS k, Str.ofString "7"]) := by
    rw [a1]; exact .step (r := some [Str.ofString "7"]) b2 (by omega) (small_log k hk) (.step (r := some []) i007.1 (by decide) (by decide) .done)
  have C := c_norm2 w news (Str.ofString "+0" ++ nS k) (Str.ofString "007") t u (some [nS k, Str.ofString "7"]) (by unfold NonEmpty; decide) (by decide) (by omega) (by rw [a1]; simp)
    (by intro y hy; have : y = nS k ∨ y = Str.ofString "7" := (by simpa using hy)
        rcases this with rfl | rfl; (· omega); (· decide)) W
  have e : Txt.join (Str.ofString ".") (((some [nS k, Str.ofString "7"]).getD (Txt.split (Str.ofString "+0" ++ nS k) (Str.ofString ".") ++ [Str.ofString "007"])).take 3) = nS k ++ Str.ofString ".7" := c1
  rw [e] at C
  exact C
theorem n3 (w : World) (news) (k : Nat) (hk : k < 100) (t u : Tok) : TellsF w 52 news [.str (Str.ofString "0" ++ nS k) t, .str (Str.ofString "0.07") u] (fun new v => new = [] ∧ ∃ t, v = .str (Str.ofString "0" ++ nS k ++ Str.ofString ".0.07") t) := by
  obtain ⟨a1, _⟩ := f1 k hk
  obtain ⟨b1, b2, b3, b4, b5, b6, _⟩ := f2 k hk
  obtain ⟨_, _, c1, _⟩ := f3 k hk
  have W : WayS (Txt.split (Str.ofString "0" ++ nS k) (Str.ofString ".") ++ [Str.ofString "0.07"]) none := by
    rw [a1]; exact .step (r := none) b1 (by omega) (small_log k hk) (.fail ref07)
  have C := c_norm2 w news (Str.ofString "0" ++ nS k) (Str.ofString "0.07") t u none (by unfold NonEmpty; decide) (by decide) (by omega) (by rw [a1]; simp)
    (by rw [a1]; intro y hy; have : y = Str.ofString "0" ++ nS k ∨ y = Str.ofString "0.07" := (by simpa using hy)
        rcases this with rfl | rfl; (· omega); (· decide)) W
  have e : Txt.join (Str.ofString ".") (((none : Option (List Str)).getD (Txt.split (Str.ofString "0" ++ nS k) (Str.ofString ".") ++ [Str.ofString "0.07"])).take 3) = Str.ofString "0" ++ nS k ++ Str.ofString ".0.07" := by rw [a1]; exact c1
  rw [e] at C
  exact C
theorem n4 (w : World) (news) (k : Nat) (hk : k < 100) (t u : Tok) : TellsF w 52 news [.str (Str.ofString "0" ++ nS k ++ Str.ofString ".07.+007.8") t, .str (Str.ofString "C") u] (fun new v => new = [] ∧ ∃ t, v = .str (Str.ofString "0" ++ nS k ++ Str.ofString ".07.+007") t) := by
  obtain ⟨_, _, a1⟩ := f1 k hk
  obtain ⟨b1, b2, b3, b4, b5, b6, b7⟩ := f2 k hk
  obtain ⟨_, _, _, c1, _⟩ := f3 k hk
  have W : WayS (Txt.split (Str.ofString "0" ++ nS k ++ Str.ofString ".07.+007.8") (Str.ofString ".") ++ [Str.ofString "C"]) none := by
    rw [a1]; exact .step (r := none) b1 (by omega) (small_log k hk) (.step (r := none) i007.2.1 (by decide) (by decide) (.step (r := none) i007.2.2.1 (by decide) (by decide) (.step (r := none) i007.2.2.2.1 (by decide) (by decide) (.fail refC))))
  have C := c_norm2 w news (Str.ofString "0" ++ nS k ++ Str.ofString ".07.+007.8") (Str.ofString "C") t u none (by unfold NonEmpty; decide) (by decide) (by omega) (by rw [a1]; simp)
    (by rw [a1]; intro y hy; have : y = Str.ofString "0" ++ nS k ∨ y = Str.ofString "07" ∨ y = Str.ofString "+007" := (by simpa using hy)
        rcases this with rfl | rfl | rfl; (· omega); (· decide); (· decide)) W
  have e : Txt.join (Str.ofString ".") (((none : Option (List Str)).getD (Txt.split (Str.ofString "0" ++ nS k ++ Str.ofString ".07.+007.8") (Str.ofString ".") ++ [Str.ofString "C"])).take 3) = Str.ofString "0" ++ nS k ++ Str.ofString ".07.+007" := by rw [a1]; exact c1
  rw [e] at C
  exact C
theorem n5 (w : World) (news) (k : Nat) (hk : k < 100) (t u : Tok) : TellsF w 52 news [.str (Str.ofString "0" ++ nS k ++ Str.ofString ".07.+007.8") t, .str (Str.ofString "09") u] (fun new v => new = [] ∧ ∃ t, v = .str (nS k ++ Str.ofString ".7.7") t) := by
  obtain ⟨_, _, a1⟩ := f1 k hk
  obtain ⟨b1, b2, b3, b4, b5, b6, b7⟩ := f2 k hk
  obtain ⟨_, _, _, _, c1⟩ := f3 k hk
  have W : WayS (Txt.split (Str.ofString "0" ++ nS k ++ Str.ofString ".07.+007.8") (Str.ofString ".") ++ [Str.ofString "09"]) (some [nS k, Str.ofString "7", Str.ofString "7", Str.ofString "8", Str.ofString "9"]) := by
    rw [a1]; exact .step (r := some [Str.ofString "7", Str.ofString "7", Str.ofString "8", Str.ofString "9"]) b1 (by omega) (small_log k hk) (.step (r := some [Str.ofString "7", Str.ofString "8", Str.ofString "9"]) i007.2.1 (by decide) (by decide) (.step (r := some [Str.ofString "8", Str.ofString "9"]) i007.2.2.1 (by decide) (by decide) (.step (r := some [Str.ofString "9"]) i007.2.2.2.1 (by decide) (by decide) (.step (r := some []) i007.2.2.2.2 (by decide) (by decide) .done))))
  have C := c_norm2 w news (Str.ofString "0" ++ nS k ++ Str.ofString ".07.+007.8") (Str.ofString "09") t u _ (by unfold NonEmpty; decide) (by decide) (by omega) (by rw [a1]; simp)
    (by intro y hy; have : y = nS k ∨ y = Str.ofString "7" := (by simpa using hy)
        rcases this with rfl | rfl; (· omega); (· decide)) W
  have e : Txt.join (Str.ofString ".") (((some [nS k, Str.ofString "7", Str.ofString "7", Str.ofString "8", Str.ofString "9"]).getD (Txt.split (Str.ofString "0" ++ nS k ++ Str.ofString ".07.+007.8") (Str.ofString ".") ++ [Str.ofString "09"])).take 3) = nS k ++ Str.ofString ".7.7" := c1
  rw [e] at C
  exact C
end Mine
end
theorem Mine.fresh49 : True := by
  w_top off
  trivial
section
open PySem PySem.W PyProof.Rows
set_option maxRecDepth 100000
set_option maxHeartbeats 8000000
namespace Mine

open Rex
/-- A field of the register. -/
inductive Fd
  | c
  | n (p k : Nat)
def Fd.txt : Fd → Str
  | .c => Str.ofString "C"
  | .n p k => if p = 0 then nS k else if p = 1 then Str.ofString "0" ++ nS k else Str.ofString "+0" ++ nS k
def Fd.ok : Fd → Prop
  | .c => True
  | .n p k => p < 3 ∧ k < 100
def Fd.cells : Fd → List Cell
  | .c => [.I 0, .S (Str.ofString "C")]
  | .n _ k => [.I 100, .I ((k : Nat) : Int)]
/-- Codes that the pattern cuts so. -/
inductive Spl : List Nat → List Str → List Cell → Prop
  | e : Spl [] [Str.ofString ""] []
  | ce : Spl [67] [Str.ofString "C"] [.I 0, .S (Str.ofString "C")]
  | cs {r ps cl} (h : Spl r ps cl) : Spl (67 :: 46 :: r) (Str.ofString "C" :: Str.ofString "." :: ps) ([.I 0, .S (Str.ofString "C")] ++ cl)
  | dot {r ps cl} (h : Spl r ps cl) : Spl (46 :: r) (Str.ofString "" :: Str.ofString "." :: ps) cl
  | plus {r ps cl} (h : Spl r ps cl) : Spl (43 :: r) (Str.ofString "" :: Str.ofString "+" :: ps) cl
  | dig {ds : List Nat} {r ps cl} {v : Int} (hne : ds ≠ []) (hd : ∀ d ∈ ds, dig d = true) (hr : r = [] ∨ ∃ r', r = 46 :: r') (hk : Kind ⟨ds.toArray⟩ [.I 100, .I v]) (h : Spl r ps cl) : Spl (ds ++ r) (Str.ofString "" :: ⟨ds.toArray⟩ :: ps) ([.I 100, .I v] ++ cl)
theorem drop_get {T : Array Nat} {a c : Nat} {r : List Nat} (h : T.toList.drop a = c :: r) : a < T.size ∧ T.getD a 0 = c ∧ T.toList.drop (a + 1) = r := by
  have hl : a < T.toList.length := by
    have := congrArg List.length h
    rw [List.length_drop] at this
    simp at this
    simp; omega
  have e := List.drop_eq_getElem_cons hl
  rw [h] at e
  obtain ⟨e1, e2⟩ := List.cons.inj e
  have hs : a < T.size := by simpa using hl
  refine ⟨hs, ?_, e2.symm⟩
  rw [e1]; simp [Array.getD, hs]
theorem ext_drop {T : Array Nat} {a k : Nat} {ds r : List Nat} (h : T.toList.drop a = ds ++ r) (hk : ds.length = k) : T.extract a (a + k) = ds.toArray := by
  apply Array.ext'
  rw [Array.toList_extract]
  show (T.toList.drop a).take (a + k - a) = ds
  rw [h, show a + k - a = k by omega, ← hk, List.take_left]
theorem spl_cuts : ∀ {suf : List Nat} {ps : List Str} {cl : List Cell}, Spl suf ps cl → ∀ (T : Array Nat) (a : Nat), T.toList.drop a = suf → a ≤ T.size → T.size < 1000 →
    ∃ (cut : List (Nat × Nat)) (cells : List (List Cell)), Cuts T a cut ∧ pieces T a cut = ps ∧ cut.length ≤ suf.length ∧ cells.flatten = cl ∧ cells.length = ps.length ∧ ps.length ≤ 2 * suf.length + 1 ∧ ∀ (i : Nat) (p : Str), ps[i]? = some p → ∃ cs : List Cell, cells[i]? = some cs ∧ Kind p cs := by
  have s46 : sep 46 = true := by decide +kernel
  have s43 : sep 43 = true := by decide +kernel
  have s67 : sep 67 = false := by decide +kernel
  have d46 : dig 46 = false := by decide
  have d43 : dig 43 = false := by decide
  have d67 : dig 67 = false := by decide
  have two : ∀ {ps : List Str} {cells : List (List Cell)} {p1 p2 : Str} {c1 c2 : List Cell}, Kind p1 c1 → Kind p2 c2 → (∀ (i : Nat) (p : Str), ps[i]? = some p → ∃ cs : List Cell, cells[i]? = some cs ∧ Kind p cs) →
      ∀ (i : Nat) (p : Str), (p1 :: p2 :: ps)[i]? = some p → ∃ cs : List Cell, (c1 :: c2 :: cells)[i]? = some cs ∧ Kind p cs := by
    intro ps cells p1 p2 c1 c2 k1 k2 h i p hp
    match i with
    | 0 => exact ⟨c1, rfl, by rw [← Option.some.inj hp]; exact k1⟩
    | 1 => exact ⟨c2, rfl, by rw [← Option.some.inj hp]; exact k2⟩
    | i + 2 => exact h i p hp
  intro suf ps cl S
  induction S with
  | e =>
    intro T a h ha hT
    have e : a = T.size := by
      have := congrArg List.length h
      rw [List.length_drop] at this
      simp at this; omega
    subst e
    refine ⟨[], [[]], .nil (Rex.next_end T) (Nat.le_refl _), ?_, Nat.le_refl _, rfl, rfl, by decide, ?_⟩
    · show [(⟨T.extract T.size T.size⟩ : Str)] = _
      rw [show T.extract T.size T.size = #[] by apply Array.ext'; simp]
      exact congrArg (fun z => [z]) (by decide +kernel)
    · intro i p hp
      match i with
      | 0 => exact ⟨[], rfl, by rw [← Option.some.inj hp]; exact .skip0⟩
      | i + 1 => cases hp
  | ce =>
    intro T a h ha hT
    obtain ⟨h1, h2, h3⟩ := drop_get h
    have hs : a + 1 = T.size := by
      have := congrArg List.length h3
      rw [List.length_drop] at this
      simp at this; omega
    refine ⟨[], [[.I 0, .S (Str.ofString "C")]], .nil (by_end T a hs (by rw [h2]; exact s67) (by rw [h2]; exact d67)) ha, ?_, Nat.zero_le _, rfl, rfl, by decide, ?_⟩
    · show [(⟨T.extract a T.size⟩ : Str)] = _
      rw [← hs, ext_drop (k := 1) (ds := [67]) (r := []) (by rw [h]; rfl) rfl]
      exact congrArg (fun z => [z]) (by decide +kernel)
    · intro i p hp
      match i with
      | 0 => exact ⟨_, rfl, by rw [← Option.some.inj hp]; exact .c⟩
      | i + 1 => cases hp
  | @cs r ps cl S ih =>
    intro T a h ha hT
    obtain ⟨h1, h2, h3⟩ := drop_get h
    obtain ⟨h4, h5, h6⟩ := drop_get h3
    obtain ⟨cut, cells, c1, c2, c3, c4, c5, c6, c7⟩ := ih T (a + 1 + 1) h6 (by omega) hT
    refine ⟨(a + 1, a + 1 + 1) :: cut, [.I 0, .S (Str.ofString "C")] :: [] :: cells, .cons (by_sep T a h4 (by rw [h2]; exact s67) (by rw [h2]; exact d67) (by rw [h5]; exact s46) (by rw [h5]; exact d46)) (by omega) (by omega) (by omega) c1, ?_, by simp; omega, by simp [c4], by simp [c5], by simp; omega, two .c .skip1 c7⟩
    show (⟨T.extract a (a + 1)⟩ : Str) :: ⟨T.extract (a + 1) (a + 1 + 1)⟩ :: pieces T (a + 1 + 1) cut = _
    rw [c2, ext_drop (k := 1) (ds := [67]) (r := 46 :: r) (by rw [h]; rfl) rfl, ext_drop (k := 1) (ds := [46]) (r := r) (by rw [h3]; rfl) rfl]
    rw [show (⟨[67].toArray⟩ : Str) = Str.ofString "C" by decide +kernel, show (⟨[46].toArray⟩ : Str) = Str.ofString "." by decide +kernel]
  | @dot r ps cl S ih =>
    intro T a h ha hT
    obtain ⟨h1, h2, h3⟩ := drop_get h
    obtain ⟨cut, cells, c1, c2, c3, c4, c5, c6, c7⟩ := ih T (a + 1) h3 (by omega) hT
    refine ⟨(a, a + 1) :: cut, [] :: [] :: cells, .cons (next_sep T a h1 (by rw [h2]; exact s46) (by rw [h2]; exact d46)) (Nat.le_refl _) (by omega) (by omega) c1, ?_, by simp; omega, by simp [c4], by simp [c5], by simp; omega, two .skip0 .skip1 c7⟩
    show (⟨T.extract a a⟩ : Str) :: ⟨T.extract a (a + 1)⟩ :: pieces T (a + 1) cut = _
    rw [c2, ext_drop (k := 1) (ds := [46]) (r := r) (by rw [h]; rfl) rfl, show T.extract a a = #[] by apply Array.ext'; simp]
    rw [show (⟨#[]⟩ : Str) = Str.ofString "" by decide +kernel, show (⟨[46].toArray⟩ : Str) = Str.ofString "." by decide +kernel]
  | @plus r ps cl S ih =>
    intro T a h ha hT
    obtain ⟨h1, h2, h3⟩ := drop_get h
    obtain ⟨cut, cells, c1, c2, c3, c4, c5, c6, c7⟩ := ih T (a + 1) h3 (by omega) hT
    refine ⟨(a, a + 1) :: cut, [] :: [] :: cells, .cons (next_sep T a h1 (by rw [h2]; exact s43) (by rw [h2]; exact d43)) (Nat.le_refl _) (by omega) (by omega) c1, ?_, by simp; omega, by simp [c4], by simp [c5], by simp; omega, two .skip0 .skip2 c7⟩
    show (⟨T.extract a a⟩ : Str) :: ⟨T.extract a (a + 1)⟩ :: pieces T (a + 1) cut = _
    rw [c2, ext_drop (k := 1) (ds := [43]) (r := r) (by rw [h]; rfl) rfl, show T.extract a a = #[] by apply Array.ext'; simp]
    rw [show (⟨#[]⟩ : Str) = Str.ofString "" by decide +kernel, show (⟨[43].toArray⟩ : Str) = Str.ofString "+" by decide +kernel]
  | @dig ds r ps cl v hne hd hr hk S ih =>
    intro T a h ha hT
    have hn : 1 ≤ ds.length := by cases ds with | nil => exact absurd rfl hne | cons _ _ => simp
    have hlen : a + ds.length ≤ T.size := by
      have := congrArg List.length h
      rw [List.length_drop, List.length_append] at this
      simp at this; omega
    have hdr : T.toList.drop (a + ds.length) = r := by
      rw [← List.drop_drop, h, List.drop_left]
    have hget : ∀ i, i < ds.length → T.getD (a + i) 0 ∈ ds := by
      intro i hi
      have hs : a + i < T.size := by omega
      have e : T.getD (a + i) 0 = (T.toList.drop a)[i]'(by simp; omega) := by simp [Array.getD, hs]
      rw [e]
      simp only [h]
      rw [List.getElem_append_left hi]
      exact List.getElem_mem _
    obtain ⟨cut, cells, c1, c2, c3, c4, c5, c6, c7⟩ := ih T (a + ds.length) hdr hlen hT
    refine ⟨(a, a + ds.length) :: cut, [] :: [.I 100, .I v] :: cells, .cons (next_dig T a ds.length hn hlen (by omega) (fun i hi => hd _ (hget i hi)) ?_) (Nat.le_refl _) (by omega) hlen c1, ?_, by simp; omega, by simp [c4], by simp [c5], by simp; omega, two .skip0 hk c7⟩
    · rcases hr with rfl | ⟨r', rfl⟩
      · left
        have := congrArg List.length hdr
        rw [List.length_drop] at this
        simp at this; omega
      · right
        obtain ⟨_, q, _⟩ := drop_get hdr
        rw [q]; exact d46
    · show (⟨T.extract a a⟩ : Str) :: ⟨T.extract a (a + ds.length)⟩ :: pieces T (a + ds.length) cut = _
      rw [c2, ext_drop (ds := ds) (r := r) h rfl, show T.extract a a = #[] by apply Array.ext'; simp]
      rw [show (⟨#[]⟩ : Str) = Str.ofString "" by decide +kernel]
end Mine
end
theorem Mine.fresh50 : True := by
  w_top off
  trivial
section
open PySem PySem.W PyProof.Rows
set_option maxRecDepth 100000
set_option maxHeartbeats 8000000
namespace Mine

open Rex
theorem digs100 : ∀ k : Fin 100, ((cd (nS k) ≠ [] ∧ (cd (nS k)).all dig = true ∧ (PySem.Builtin.Str.occurrences (Str.ofString "._+-") (nS k) 0 (Str.ofString "._+-").length 1).isEmpty = true ∧ (nS k).length ≤ 640) ∧
    cd (Str.ofString "0" ++ nS k) ≠ [] ∧ (cd (Str.ofString "0" ++ nS k)).all dig = true ∧ (PySem.Builtin.Str.occurrences (Str.ofString "._+-") (Str.ofString "0" ++ nS k) 0 (Str.ofString "._+-").length 1).isEmpty = true ∧ (Str.ofString "0" ++ nS k).length ≤ 640 ∧ cd (Str.ofString "+0" ++ nS k) = 43 :: cd (Str.ofString "0" ++ nS k)) := by decide +kernel
theorem num_spl {k : Nat} (hk : k < 100) {r : List Nat} {ps : List Str} {cl : List Cell} (hr : r = [] ∨ ∃ r', r = 46 :: r') (h : Spl r ps cl) (p : Nat) (hp : p < 3) : ∃ ps', Spl (cd (Fd.txt (.n p k)) ++ r) ps' ([.I 100, .I ((k : Nat) : Int)] ++ cl) := by
  obtain ⟨⟨a1, a2, a3, a4⟩, b1, b2, b3, b4, b5⟩ := digs100 ⟨k, hk⟩
  obtain ⟨i1, i2, i3, _⟩ := f2 k hk
  have hp' : p = 0 ∨ p = 1 ∨ p = 2 := by omega
  have z : ∃ ps', Spl (cd (Str.ofString "0" ++ nS k) ++ r) ps' ([.I 100, .I ((k : Nat) : Int)] ++ cl) :=
    ⟨_, .dig b1 (fun d hd => List.all_eq_true.mp b2 d hd) hr (Kind.num (p := ⟨(cd (Str.ofString "0" ++ nS k)).toArray⟩) b3 i1 b4) h⟩
  rcases hp' with rfl | rfl | rfl
  · exact ⟨_, .dig a1 (fun d hd => List.all_eq_true.mp a2 d hd) hr (Kind.num (p := ⟨(cd (nS k)).toArray⟩) a3 i3 a4) h⟩
  · exact z
  · obtain ⟨ps', h'⟩ := z
    have e : cd (Fd.txt (.n 2 k)) = 43 :: cd (Str.ofString "0" ++ nS k) := b5
    rw [e]
    exact ⟨_, .plus h'⟩
theorem fd_last {f : Fd} (hf : f.ok) : ∃ ps, Spl (cd f.txt) ps f.cells := by
  cases f with
  | c => exact ⟨_, (by have e : cd (Fd.txt .c) = [67] := by decide +kernel
                       rw [e]; exact .ce)⟩
  | n p k =>
    obtain ⟨ps, h⟩ := num_spl hf.2 (.inl rfl) .e p hf.1
    rw [List.append_nil, List.append_nil] at h
    exact ⟨ps, h⟩
theorem fd_more {f : Fd} (hf : f.ok) {r : List Nat} {ps : List Str} {cl : List Cell} (h : Spl r ps cl) : ∃ ps', Spl (cd f.txt ++ 46 :: r) ps' (f.cells ++ cl) := by
  cases f with
  | c =>
    have e : cd (Fd.txt .c) = [67] := by decide +kernel
    rw [e]
    exact ⟨_, .cs h⟩
  | n p k => exact num_spl hf.2 (.inr ⟨_, rfl⟩) (.dot h) p hf.1
theorem fd_len {f : Fd} (hf : f.ok) : f.txt.length ≤ 4 := by
  cases f with
  | c => decide
  | n p k =>
    obtain ⟨_, _, _, b4, b5, b6, _⟩ := f2 k hf.2
    unfold Fd.txt
    dsimp only
    repeat' split
    all_goals omega
theorem join3 (x y z : Str) : cd (Txt.join (Str.ofString ".") [x, y, z]) = cd x ++ 46 :: (cd y ++ 46 :: cd z) := by
  show ((x.cps ++ (Str.ofString ".").cps ++ y.cps) ++ (Str.ofString ".").cps ++ z.cps).toList = _
  have d : (Str.ofString ".").cps.toList = [46] := by decide +kernel
  simp [d, cd]
def win3 (a b c : Fd) : Str := Txt.join (Str.ofString ".") [a.txt, b.txt, c.txt]
theorem len_cd (x : Str) : x.length = (cd x).length := by simp [Str.length, cd]
theorem win3_len {a b c : Fd} (ha : a.ok) (hb : b.ok) (hc : c.ok) : (win3 a b c).length < 20 := by
  rw [len_cd]; unfold win3; rw [join3]
  have := fd_len ha
  have := fd_len hb
  have := fd_len hc
  rw [len_cd] at *
  simp; omega
theorem cells_len (f : Fd) : f.cells.length = 2 := by cases f <;> rfl
/-- What _comparable_version reads of a window. -/
theorem told_win (w : World) (news) {a b c : Fd} (ha : a.ok) (hb : b.ok) (hc : c.ok) (t : Tok) : TellsHF w 44 news [.str (win3 a b c) t] (fun new v => ∃ l its n, v = .ref l ∧ new = [(l, listOf its n)] ∧ Cells its.toList (a.cells ++ b.cells ++ c.cells)) := by
  obtain ⟨p1, s1⟩ := fd_last hc
  obtain ⟨p2, s2⟩ := fd_more hb s1
  obtain ⟨p3, s3⟩ := fd_more ha s2
  rw [← join3] at s3
  have hl := win3_len ha hb hc
  have hsz : (win3 a b c).cps.size < 20 := hl
  obtain ⟨cut, cells, c1, c2, c3, c4, c5, c6, c7⟩ := spl_cuts s3 (win3 a b c).cps 0 rfl (Nat.zero_le _) (by omega)
  have hcd : (cd (Txt.join (Str.ofString ".") [a.txt, b.txt, c.txt])).length < 20 := by rw [← len_cd]; exact hl
  have hln : (cd (Txt.join (Str.ofString ".") [a.txt, b.txt, c.txt])).length = (win3 a b c).cps.size := by rw [← len_cd]; rfl
  have hfl : cells.flatten = a.cells ++ b.cells ++ c.cells := by rw [c4, List.append_assoc]
  have := c_comp w news (win3 a b c) t cut cells (by omega) c1 (by rw [c2]; omega) (by omega) (by rw [hfl]; simp [cells_len]) (by rw [c2]; exact c5) (by rw [c2]; exact c7)
  rw [hfl] at this
  exact this
end Mine
end
theorem Mine.fresh51 : True := by
  w_top off
  trivial
section
open PySem PySem.W PyProof.Rows
set_option maxRecDepth 100000
set_option maxHeartbeats 8000000
namespace Mine

theorem fd_nodot {f : Fd} (hf : f.ok) : 46 ∉ cd f.txt := by
  cases f with
  | c => decide +kernel
  | n p k =>
    obtain ⟨⟨a1, a2, _⟩, b1, b2, _, _, b5⟩ := digs100 ⟨k, hf.2⟩
    have key : ∀ l : List Nat, l.all Rex.dig = true → 46 ∉ l := fun l h m => by
      have := List.all_eq_true.mp h 46 m
      revert this; decide
    unfold Fd.txt
    dsimp only
    split
    · exact key _ a2
    · split
      · exact key _ b2
      · rw [show cd (Str.ofString "+0" ++ nS k) = 43 :: cd (Str.ofString "0" ++ nS k) from b5]
        intro m
        rcases List.mem_cons.mp m with h | h
        · exact absurd h (by decide)
        · exact key _ b2 h
theorem fd_ne {f : Fd} (hf : f.ok) : cd f.txt ≠ [] := by
  cases f with
  | c => decide +kernel
  | n p k =>
    obtain ⟨⟨a1, _⟩, b1, _, _, _, b5⟩ := digs100 ⟨k, hf.2⟩
    unfold Fd.txt
    dsimp only
    split
    · exact a1
    · split
      · exact b1
      · rw [show cd (Str.ofString "+0" ++ nS k) = 43 :: cd (Str.ofString "0" ++ nS k) from b5]; simp
def Fd.isC : Fd → Bool
  | .c => true
  | .n _ _ => false
def Fd.plain : Fd → Fd
  | .c => .c
  | .n _ k => .n 0 k
def wayOf (fs : List Fd) : Option (List Str) := if fs.any Fd.isC then none else some (fs.map fun f => f.plain.txt)
theorem ways : ∀ fs : List Fd, (∀ f ∈ fs, f.ok) → WayS (fs.map Fd.txt) (wayOf fs)
  | [], _ => .done
  | .c :: fs, _ => .fail refC
  | .n p k :: fs, h => by
    obtain ⟨hp, hk⟩ := h _ (.head _)
    have hp : p < 3 := hp
    have hk : k < 100 := hk
    have ih := ways fs (fun f hf => h f (.tail _ hf))
    obtain ⟨i1, i2, i3, l1, l2, l3, _⟩ := f2 k hk
    have e : wayOf (.n p k :: fs) = (wayOf fs).map (Str.ofString (toString ((k : Nat) : Int)) :: ·) := by
      unfold wayOf
      rw [List.any_cons]
      show (if (false || fs.any Fd.isC) = true then none else some (nS k :: _)) = _
      rw [Bool.false_or]
      by_cases q : fs.any Fd.isC = true
      · rw [if_pos q, if_pos q]; rfl
      · rw [if_neg q, if_neg q]; rfl
    rw [e, List.map_cons]
    have hp' : p = 0 ∨ p = 1 ∨ p = 2 := by omega
    rcases hp' with rfl | rfl | rfl
    · exact .step i3 (show (nS k).length ≤ 640 by omega) (small_log k hk) ih
    · exact .step i1 (show (Str.ofString "0" ++ nS k).length ≤ 640 by omega) (small_log k hk) ih
    · exact .step i2 (show (Str.ofString "+0" ++ nS k).length ≤ 640 by omega) (small_log k hk) ih
/-- The next window. -/
def nxt (s f1 f2 f3 : Fd) : Str := if [s, f1, f2, f3].any Fd.isC then win3 s f1 f2 else win3 s.plain f1.plain f2.plain
theorem plain_ok {f : Fd} (h : f.ok) : f.plain.ok := by
  cases f with
  | c => trivial
  | n p k => exact ⟨by show 0 < 3; omega, h.2⟩
theorem nxt_eq (s f1 f2 f3 : Fd) : Txt.join (Str.ofString ".") (((wayOf [s, f1, f2, f3]).getD ([s, f1, f2, f3].map Fd.txt)).take 3) = nxt s f1 f2 f3 := by
  unfold wayOf nxt
  by_cases q : [s, f1, f2, f3].any Fd.isC = true
  · rw [if_pos q, if_pos q]; rfl
  · rw [if_neg q, if_neg q]; rfl
theorem nxt_wt {s f1 f2 f3 : Fd} (h : ∀ f ∈ [s, f1, f2, f3], f.ok) : ∀ y ∈ ((wayOf [s, f1, f2, f3]).getD ([s, f1, f2, f3].map Fd.txt)).take 3, y.length ≤ 100 := by
  intro y hy
  have hy' := List.mem_of_mem_take hy
  unfold wayOf at hy'
  have key : ∃ f ∈ [s, f1, f2, f3], y = f.txt ∨ y = f.plain.txt := by
    by_cases q : [s, f1, f2, f3].any Fd.isC = true
    · rw [if_pos q] at hy'
      obtain ⟨f, hf, e⟩ := List.mem_map.mp hy'
      exact ⟨f, hf, .inl e.symm⟩
    · rw [if_neg q] at hy'
      obtain ⟨f, hf, e⟩ := List.mem_map.mp hy'
      exact ⟨f, hf, .inr e.symm⟩
  obtain ⟨f, hf, e | e⟩ := key
  · rw [e]; have := fd_len (h f hf); omega
  · rw [e]; have := fd_len (plain_ok (h f hf)); omega
theorem split_win {a b c : Fd} (ha : a.ok) (hb : b.ok) (hc : c.ok) : Txt.split (win3 a b c) (Str.ofString ".") = [a.txt, b.txt, c.txt] :=
  split_of (fs := [a.txt, b.txt, c.txt]) (fun f hf => by
    simp only [List.mem_cons, List.not_mem_nil, or_false] at hf
    rcases hf with rfl | rfl | rfl
    · exact fd_nodot ha
    · exact fd_nodot hb
    · exact fd_nodot hc) (by simp) (by unfold win3; rw [join3]; rfl)
theorem normE (w : World) (nw) {s f1 f2 f3 : Fd} (hs : s.ok) (h1 : f1.ok) (h2 : f2.ok) (h3 : f3.ok) (t : Tok) : TellsF w 52 nw [.str (s.txt ++ Str.ofString "." ++ win3 f1 f2 f3) t] (fun new v => new = [] ∧ ∃ t, v = .str (nxt s f1 f2 f3) t) := by
  have hok : ∀ f ∈ [s, f1, f2, f3], f.ok := fun f hf => by
    simp only [List.mem_cons, List.not_mem_nil, or_false] at hf
    rcases hf with rfl | rfl | rfl | rfl <;> assumption
  have hsp : Txt.split (s.txt ++ Str.ofString "." ++ win3 f1 f2 f3) (Str.ofString ".") = [s, f1, f2, f3].map Fd.txt :=
    split_of (fs := [s, f1, f2, f3].map Fd.txt) (fun f hf => by
      obtain ⟨g, hg, rfl⟩ := List.mem_map.mp hf
      exact fd_nodot (hok g hg)) (by simp) (by
      rw [cd_app, cd_app, cd_dot]; unfold win3; rw [join3, List.append_assoc]; rfl)
  have l1 := fd_len hs
  have l2 := win3_len h1 h2 h3
  have hlen : (s.txt ++ Str.ofString "." ++ win3 f1 f2 f3).length < 80 := by
    rw [len_cd, cd_app, cd_app, cd_dot, List.length_append, List.length_append, ← len_cd, ← len_cd]
    simp; omega
  have C := c_norm1 w nw (s.txt ++ Str.ofString "." ++ win3 f1 f2 f3) t (wayOf [s, f1, f2, f3]) hlen (by rw [hsp]; simp) (by rw [hsp]; exact nxt_wt hok) (by rw [hsp]; exact ways _ hok)
  rw [hsp, nxt_eq] at C
  exact C
theorem normO (w : World) (nw) {s f1 f2 f3 : Fd} (hs : s.ok) (h1 : f1.ok) (h2 : f2.ok) (h3 : f3.ok) (t u : Tok) : TellsF w 52 nw [.str (s.txt ++ Str.ofString "." ++ (f1.txt ++ Str.ofString "." ++ f2.txt)) t, .str f3.txt u] (fun new v => new = [] ∧ ∃ t, v = .str (nxt s f1 f2 f3) t) := by
  have hok : ∀ f ∈ [s, f1, f2, f3], f.ok := fun f hf => by
    simp only [List.mem_cons, List.not_mem_nil, or_false] at hf
    rcases hf with rfl | rfl | rfl | rfl <;> assumption
  have hsp : Txt.split (s.txt ++ Str.ofString "." ++ (f1.txt ++ Str.ofString "." ++ f2.txt)) (Str.ofString ".") = [s.txt, f1.txt, f2.txt] :=
    split_of (fs := [s.txt, f1.txt, f2.txt]) (fun f hf => by
      simp only [List.mem_cons, List.not_mem_nil, or_false] at hf
      rcases hf with rfl | rfl | rfl
      · exact fd_nodot hs
      · exact fd_nodot h1
      · exact fd_nodot h2) (by simp) (by
      rw [cd_app, cd_app, cd_app, cd_app, cd_dot, List.append_assoc, List.append_assoc]; rfl)
  have l0 := fd_len hs
  have l1 := fd_len h1
  have l2 := fd_len h2
  have l3 := fd_len h3
  have hlen : (s.txt ++ Str.ofString "." ++ (f1.txt ++ Str.ofString "." ++ f2.txt)).length < 80 := by
    rw [len_cd, cd_app, cd_app, cd_app, cd_app, cd_dot]
    simp only [List.length_append]
    rw [← len_cd, ← len_cd, ← len_cd]
    simp; omega
  have hall : Txt.split (s.txt ++ Str.ofString "." ++ (f1.txt ++ Str.ofString "." ++ f2.txt)) (Str.ofString ".") ++ [f3.txt] = [s, f1, f2, f3].map Fd.txt := by rw [hsp]; rfl
  have hne : NonEmpty f3.txt := by
    unfold NonEmpty
    rw [len_cd]
    intro q
    exact fd_ne h3 (List.eq_nil_of_length_eq_zero q)
  have C := c_norm2 w nw (s.txt ++ Str.ofString "." ++ (f1.txt ++ Str.ofString "." ++ f2.txt)) f3.txt t u (wayOf [s, f1, f2, f3]) hne (by omega) hlen (by rw [hsp]; simp) (by rw [hall]; exact nxt_wt hok) (by rw [hall]; exact ways _ hok)
  rw [hall, nxt_eq] at C
  exact C
end Mine
end
theorem Mine.fresh52 : True := by
  w_top off
  trivial
section
open PySem PySem.W PyProof.Rows
set_option maxRecDepth 100000
set_option maxHeartbeats 8000000
namespace Mine

def numF (nums : List Int) (x : Int) : Nat := (nums.getD x.toNat 0).toNat
def fdOf (x : Int) (pl : Bool) (born : Int) (nums : List Int) : Fd := if x = 0 then .c else .n (if pl then 0 else (born % 3).toNat) (numF nums x)
def fieldF (past : List Int) (born turn : Int) (nums : List Int) : Fd := fdOf (past.getD (born + 3).toNat 0) (plainB past born turn) born nums
theorem nil_app (x : Str) : Str.ofString "" ++ x = x := by
  apply cd_inj
  rw [cd_app, show cd (Str.ofString "") = [] by decide +kernel, List.nil_append]
theorem fieldS_fd {past nums : List Int} (hnb : ∀ x ∈ nums, 0 ≤ x ∧ x < 100) (born turn : Int) : fieldS past born turn nums = (fieldF past born turn nums).txt := by
  unfold fieldS fieldF fdOf
  dsimp only
  generalize hd : past.getD (born + 3).toNat 0 = d
  by_cases h0 : d = 0
  · rw [if_pos h0, if_pos h0]; rfl
  · rw [if_neg h0, if_neg h0]
    have hn : 0 ≤ nums.getD d.toNat 0 := by
      rw [List.getD_eq_getElem?_getD]
      cases h : nums[d.toNat]? with
      | none => exact Int.le_refl _
      | some v => exact (hnb v (List.mem_of_getElem? h)).1
    have eN : intS (nums.getD d.toNat 0) = nS (numF nums d) := by
      unfold numF intS
      show _ = Str.ofString (toString (((nums.getD d.toNat 0).toNat : Nat) : Int))
      rw [Int.toNat_of_nonneg hn]
    rw [eN]
    by_cases hp : plainB past born turn = true
    · rw [if_pos hp, if_pos hp]; rfl
    · rw [if_neg hp, if_neg hp]
      have hm : born % 3 = 0 ∨ born % 3 = 1 ∨ born % 3 = 2 := by omega
      unfold signS
      rcases hm with e | e | e <;> rw [e]
      · exact nil_app _
      · rfl
      · rfl
theorem fieldF_ok {past nums : List Int} (hnb : ∀ x ∈ nums, 0 ≤ x ∧ x < 100) (x : Int) (b : Bool) (born : Int) : (fdOf x b born nums).ok := by
  unfold fdOf
  by_cases h0 : x = 0
  · rw [if_pos h0]; trivial
  · rw [if_neg h0]
    refine ⟨by split <;> omega, ?_⟩
    unfold numF
    rw [List.getD_eq_getElem?_getD]
    cases h : nums[x.toNat]? with
    | none => decide
    | some v =>
      have := hnb v (List.mem_of_getElem? h)
      show v.toNat < 100
      omega
theorem winOf_fd {past nums : List Int} (hnb : ∀ x ∈ nums, 0 ≤ x ∧ x < 100) (turn : Int) : winOf past turn nums = win3 (fieldF past turn turn nums) (fieldF past (turn - 1) turn nums) (fieldF past (turn - 2) turn nums) := by
  unfold winOf win3
  rw [fieldS_fd hnb, fieldS_fd hnb, fieldS_fd hnb]
theorem win4_old {past : List Int} {d : Int} {k : Nat} (h : k + 4 ≤ past.length) : win4 (past ++ [d]) k = win4 past k := by
  unfold win4
  rw [List.drop_append_of_le_length (by omega), List.take_append_of_le_length (by rw [List.length_drop]; omega)]
def zero4 (l : List Int) (k : Nat) : Bool := (win4 l k).any fun x => x == 0
theorem plainB_new {past : List Int} {d born turn : Int} (hb : 0 ≤ born) (hbt : born ≤ turn + 1) (hl : (past.length : Int) = turn + 4) : plainB (past ++ [d]) born (turn + 1) = (plainB past born turn || !zero4 (past ++ [d]) (turn + 1).toNat) := by
  unfold plainB
  rw [show (turn + 1 + 1 - born).toNat = (turn + 1 - born).toNat + 1 by omega, List.range_succ, List.any_append]
  congr 1
  · apply Bool.eq_iff_iff.mpr
    rw [List.any_eq_true, List.any_eq_true]
    constructor
    · rintro ⟨j, hj, h⟩
      refine ⟨j, hj, ?_⟩
      have := List.mem_range.mp hj
      rwa [win4_old (by omega)] at h
    · rintro ⟨j, hj, h⟩
      refine ⟨j, hj, ?_⟩
      have := List.mem_range.mp hj
      rwa [win4_old (by omega)]
  · simp only [List.any_cons, List.any_nil, Bool.or_false]
    rw [show born.toNat + (turn + 1 - born).toNat = (turn + 1).toNat by omega]
    rfl
theorem win4_four {l : List Int} {k : Nat} (h : k + 4 ≤ l.length) : win4 l k = [l.getD k 0, l.getD (k + 1) 0, l.getD (k + 2) 0, l.getD (k + 3) 0] := by
  unfold win4
  rw [List.drop_eq_getElem_cons (by omega), List.drop_eq_getElem_cons (by omega), List.drop_eq_getElem_cons (by omega), List.drop_eq_getElem_cons (by omega)]
  simp only [List.take_succ_cons, List.take_zero]
  have g : ∀ i (hi : i < l.length), l[i] = l.getD i 0 := fun i hi => by rw [List.getD_eq_getElem?_getD, List.getElem?_eq_getElem hi]; rfl
  rw [g, g, g, g]
theorem fdOf_isC (x : Int) (b : Bool) (born : Int) (nums : List Int) : (fdOf x b born nums).isC = (x == 0) := by
  unfold fdOf
  by_cases h : x = 0
  · rw [if_pos h, h]; rfl
  · rw [if_neg h]; simp [Fd.isC, h]
theorem fdOf_plain (x : Int) (b : Bool) (born : Int) (nums : List Int) : (fdOf x b born nums).plain = fdOf x true born nums := by
  unfold fdOf
  by_cases h : x = 0
  · rw [if_pos h, if_pos h]; rfl
  · rw [if_neg h, if_neg h]; rfl
theorem getD_old {past : List Int} {d : Int} {k : Nat} (h : k < past.length) : (past ++ [d]).getD k 0 = past.getD k 0 := by
  rw [List.getD_eq_getElem?_getD, List.getD_eq_getElem?_getD, List.getElem?_append_left h]
theorem getD_new {past : List Int} {d : Int} : (past ++ [d]).getD past.length 0 = d := by
  rw [List.getD_eq_getElem?_getD, List.getElem?_append_right (Nat.le_refl _)]; simp
theorem fieldF_new {past nums : List Int} {d born turn : Int} (hp0 : ∀ i, i < 3 → (past ++ [d]).getD i 0 = 0) (hbt : born ≤ turn + 1) (hl : (past.length : Int) = turn + 4) :
    fieldF (past ++ [d]) born (turn + 1) nums = if zero4 (past ++ [d]) (turn + 1).toNat = true then fdOf ((past ++ [d]).getD (born + 3).toNat 0) (plainB past born turn) born nums else (fdOf ((past ++ [d]).getD (born + 3).toNat 0) (plainB past born turn) born nums).plain := by
  rw [fdOf_plain]
  unfold fieldF
  by_cases hb : 0 ≤ born
  · rw [plainB_new hb hbt hl]
    by_cases hz : zero4 (past ++ [d]) (turn + 1).toNat = true
    · rw [if_pos hz, hz]; simp
    · rw [if_neg hz]
      have : zero4 (past ++ [d]) (turn + 1).toNat = false := by simpa using hz
      rw [this]; simp
  · have e : (past ++ [d]).getD (born + 3).toNat 0 = 0 := hp0 _ (by omega)
    rw [e]
    unfold fdOf
    simp
/-- One turn of the register. -/
theorem win_next {past nums : List Int} {d turn : Int} (hnb : ∀ x ∈ nums, 0 ≤ x ∧ x < 100) (hp0 : ∀ i, i < 3 → (past ++ [d]).getD i 0 = 0) (ht : -1 ≤ turn) (hl : (past.length : Int) = turn + 4) :
    nxt (fdOf d false (turn + 1) nums) (fieldF past turn turn nums) (fieldF past (turn - 1) turn nums) (fieldF past (turn - 2) turn nums) = winOf (past ++ [d]) (turn + 1) nums := by
  rw [winOf_fd hnb, show turn + 1 - 1 = turn by omega, show turn + 1 - 2 = turn - 1 by omega]
  rw [fieldF_new hp0 (by omega) hl, fieldF_new hp0 (by omega) hl, fieldF_new hp0 (by omega) hl]
  have g0 : (past ++ [d]).getD (turn + 1 + 3).toNat 0 = d := by
    rw [show (turn + 1 + 3).toNat = past.length by omega]; exact getD_new
  have gk : ∀ b : Int, b ≤ turn → -4 < b → (past ++ [d]).getD (b + 3).toNat 0 = past.getD (b + 3).toNat 0 := fun b h1 h2 => getD_old (by omega)
  have p0 : plainB past (turn + 1) turn = false := by
    unfold plainB
    rw [show (turn + 1 - (turn + 1)).toNat = 0 by omega]; rfl
  rw [g0, p0, gk turn (by omega) (by omega), gk (turn - 1) (by omega) (by omega)]
  have ez : zero4 (past ++ [d]) (turn + 1).toNat = [fdOf d false (turn + 1) nums, fieldF past turn turn nums, fieldF past (turn - 1) turn nums, fieldF past (turn - 2) turn nums].any Fd.isC := by
    unfold zero4
    rw [win4_four (by rw [List.length_append, List.length_singleton]; omega)]
    simp only [List.any_cons, List.any_nil, Bool.or_false]
    unfold fieldF
    rw [fdOf_isC, fdOf_isC, fdOf_isC, fdOf_isC]
    rw [show (turn + 1).toNat + 3 = past.length by omega, getD_new]
    rw [getD_old (k := (turn + 1).toNat) (by omega), getD_old (k := (turn + 1).toNat + 1) (by omega), getD_old (k := (turn + 1).toNat + 2) (by omega)]
    rw [show (turn + 3).toNat = (turn + 1).toNat + 2 by omega, show (turn - 1 + 3).toNat = (turn + 1).toNat + 1 by omega, show (turn - 2 + 3).toNat = (turn + 1).toNat by omega]
    cases (past.getD (turn + 1).toNat 0 == 0) <;> cases (past.getD ((turn + 1).toNat + 1) 0 == 0) <;> cases (past.getD ((turn + 1).toNat + 2) 0 == 0) <;> cases (d == 0) <;> rfl
  unfold nxt
  rw [ez]
  by_cases q : [fdOf d false (turn + 1) nums, fieldF past turn turn nums, fieldF past (turn - 1) turn nums, fieldF past (turn - 2) turn nums].any Fd.isC = true
  · simp only [if_pos q]; rfl
  · simp only [if_neg q]; rfl
end Mine
end
theorem Mine.fresh53 : True := by
  w_top off
  trivial
section
namespace Mine
namespace Best
def cnt (pl : Nat → Nat) : Nat → Nat → Nat
  | 0, _ => 0
  | t + 1, p => cnt pl t p + if pl t = p then 1 else 0
def tot (f : Nat → Nat) : Nat → Nat
  | 0 => 0
  | k + 1 => tot f k + f k
theorem tot_le {f : Nat → Nat} {b : Nat} : ∀ k, (∀ p < k, f p ≤ b) → tot f k ≤ b * k
  | 0, _ => Nat.zero_le _
  | k + 1, h => by
    have a := tot_le k (fun p hp => h p (Nat.lt_succ_of_lt hp))
    have c := h k (Nat.lt_succ_self k)
    show tot f k + f k ≤ b * (k + 1)
    rw [Nat.mul_succ]; omega
theorem tot_add {f g : Nat → Nat} : ∀ k, tot (fun p => f p + g p) k = tot f k + tot g k
  | 0 => rfl
  | k + 1 => by
    show tot (fun p => f p + g p) k + (f k + g k) = tot f k + f k + (tot g k + g k)
    rw [tot_add k]; omega
theorem tot_one {x : Nat} : ∀ k, tot (fun p => if x = p then 1 else 0) k = if x < k then 1 else 0
  | 0 => by simp [tot]
  | k + 1 => by
    show tot (fun p => if x = p then 1 else 0) k + (if x = k then 1 else 0) = _
    rw [tot_one k]
    by_cases a : x < k
    · rw [if_pos a, if_neg (by omega), if_pos (by omega)]
    · rw [if_neg a]
      by_cases b : x = k
      · rw [if_pos b, if_pos (by omega)]
      · rw [if_neg b, if_neg (by omega)]
theorem tot_cnt {pl : Nat → Nat} {k : Nat} : ∀ t, (∀ i < t, pl i < k) → tot (cnt pl t) k = t
  | 0, _ => by
    have : ∀ k, tot (cnt pl 0) k = 0 := by
      intro k
      induction k with
      | zero => rfl
      | succ k ih => show tot (cnt pl 0) k + 0 = 0; rw [ih]
    exact this k
  | t + 1, h => by
    show tot (fun p => cnt pl t p + if pl t = p then 1 else 0) k = t + 1
    rw [tot_add, tot_one, if_pos (h t (Nat.lt_succ_self t))]
    have := tot_cnt (pl := pl) (k := k) t (fun i hi => h i (Nat.lt_succ_of_lt hi))
    rw [show tot (fun p => cnt pl t p) k = tot (cnt pl t) k from rfl, this]
theorem cnt_mono {pl : Nat → Nat} {p : Nat} : ∀ {t s : Nat}, t ≤ s → cnt pl t p ≤ cnt pl s p := by
  intro t s h
  induction s with
  | zero => have : t = 0 := by omega
            subst this; exact Nat.le_refl _
  | succ s ih =>
    by_cases e : t = s + 1
    · subst e; exact Nat.le_refl _
    · have := ih (by omega)
      show _ ≤ cnt pl s p + _
      omega
theorem cnt_at {pl : Nat → Nat} {i j : Nat} (h : i < j) : cnt pl i (pl i) + 1 ≤ cnt pl j (pl i) := by
  have a := cnt_mono (pl := pl) (p := pl i) (t := i + 1) (s := j) h
  have b : cnt pl (i + 1) (pl i) = cnt pl i (pl i) + 1 := by show _ + _ = _; rw [if_pos rfl]
  omega
/-- A count that is above a number was at it. -/
theorem cnt_hit {pl : Nat → Nat} {p k : Nat} : ∀ {t : Nat}, k < cnt pl t p → ∃ i < t, pl i = p ∧ cnt pl i p = k
  | 0, h => absurd h (Nat.not_lt_zero _)
  | t + 1, h => by
    have h' : k < cnt pl t p + if pl t = p then 1 else 0 := h
    by_cases e : pl t = p
    · rw [if_pos e] at h'
      by_cases e2 : cnt pl t p = k
      · exact ⟨t, Nat.lt_succ_self t, e, e2⟩
      · obtain ⟨i, hi, a, b⟩ := cnt_hit (pl := pl) (p := p) (k := k) (t := t) (by omega)
        exact ⟨i, by omega, a, b⟩
    · rw [if_neg e] at h'
      obtain ⟨i, hi, a, b⟩ := cnt_hit (pl := pl) (p := p) (k := k) (t := t) (by omega)
      exact ⟨i, by omega, a, b⟩
/-- The walk. -/
structure Walk (R : Nat → Nat → Nat) (pl dg : Nat → Nat) (n : Nat) : Prop where
  p0 : pl 0 = 0
  st : ∀ t < n, pl (t + 1) = 3 * dg t + pl t / 3
  lt : ∀ t ≤ n, pl t < 9
  d3 : ∀ t < n, dg t < 3
  ex : ∀ t < n, dg t = R (pl t) (cnt pl t (pl t))
  c3 : ∀ t < n, cnt pl t (pl t) < 3
  inj : ∀ p < 9, ∀ a b, a < 3 → b < 3 → R p a = R p b → a = b
theorem Walk.le3 {R : Nat → Nat → Nat} {pl dg : Nat → Nat} {n : Nat} (W : Walk R pl dg n) (p : Nat) : ∀ t ≤ n, cnt pl t p ≤ 3
  | 0, _ => Nat.zero_le _
  | t + 1, h => by
    have a := W.le3 p t (by omega)
    show cnt pl t p + _ ≤ 3
    by_cases e : pl t = p
    · rw [if_pos e]
      have := W.c3 t (by omega)
      rw [e] at this; omega
    · rw [if_neg e]; omega
theorem Walk.le27 {R : Nat → Nat → Nat} {pl dg : Nat → Nat} {n : Nat} (W : Walk R pl dg n) : n ≤ 27 := by
  have a := tot_cnt (pl := pl) (k := 9) n (fun i hi => W.lt i (by omega))
  have b := tot_le (f := cnt pl n) (b := 3) 9 (fun p _ => W.le3 p n (Nat.le_refl _))
  omega
/-- Each way is gone once. -/
theorem Walk.once {R : Nat → Nat → Nat} {pl dg : Nat → Nat} {n : Nat} (W : Walk R pl dg n) {i j : Nat} (hi : i < n) (hj : j < n) (h : 9 * dg i + pl i = 9 * dg j + pl j) : i = j := by
  have a := W.lt i (by omega)
  have b := W.lt j (by omega)
  have ep : pl i = pl j := by omega
  have ed : dg i = dg j := by omega
  have key : ∀ i j, i < n → j < n → pl i = pl j → dg i = dg j → ¬ i < j := by
    intro i j hi hj ep ed hij
    have c1 := cnt_at (pl := pl) hij
    rw [W.ex i hi, W.ex j hj, ← ep] at ed
    have := W.inj (pl i) (W.lt i (by omega)) _ _ (W.c3 i hi) (by have := W.c3 j hj; rwa [← ep] at this) ed
    omega
  have k1 := key i j hi hj ep ed
  have k2 := key j i hj hi ep.symm ed.symm
  omega
theorem Walk.code {R : Nat → Nat → Nat} {pl dg : Nat → Nat} {n : Nat} (W : Walk R pl dg n) {t : Nat} (ht : t < n) : 9 * dg t + pl t = 3 * pl (t + 1) + pl t % 3 := by
  rw [W.st t ht]; omega
/-- How often a place is come to. -/
def ent (pl : Nat → Nat) : Nat → Nat → Nat
  | 0, _ => 0
  | t + 1, p => ent pl t p + if pl (t + 1) = p then 1 else 0
theorem ent_cnt {pl : Nat → Nat} (p : Nat) : ∀ t, ent pl t p + (if pl 0 = p then 1 else 0) = cnt pl t p + (if pl t = p then 1 else 0)
  | 0 => rfl
  | t + 1 => by
    have a := ent_cnt (pl := pl) p t
    show ent pl t p + (if pl (t + 1) = p then 1 else 0) + _ = cnt pl t p + (if pl t = p then 1 else 0) + _
    omega
/-- The comings to a place from each of the three. -/
def entr (pl : Nat → Nat) : Nat → Nat → Nat → Nat
  | 0, _, _ => 0
  | t + 1, p, r => entr pl t p r + if pl (t + 1) = p ∧ pl t % 3 = r then 1 else 0
theorem ent_split {pl : Nat → Nat} (p : Nat) : ∀ t, ent pl t p = entr pl t p 0 + entr pl t p 1 + entr pl t p 2
  | 0 => rfl
  | t + 1 => by
    have a := ent_split (pl := pl) p t
    show ent pl t p + _ = (entr pl t p 0 + _) + (entr pl t p 1 + _) + (entr pl t p 2 + _)
    by_cases e : pl (t + 1) = p
    · have hm : pl t % 3 = 0 ∨ pl t % 3 = 1 ∨ pl t % 3 = 2 := by omega
      rcases hm with h | h | h <;> simp [e, h] <;> omega
    · simp [e]; omega
theorem entr_hit {pl : Nat → Nat} {p r k : Nat} : ∀ {t : Nat}, k < entr pl t p r → ∃ i < t, pl (i + 1) = p ∧ pl i % 3 = r ∧ entr pl i p r = k
  | 0, h => absurd h (Nat.not_lt_zero _)
  | t + 1, h => by
    have h' : k < entr pl t p r + if pl (t + 1) = p ∧ pl t % 3 = r then 1 else 0 := h
    by_cases e : pl (t + 1) = p ∧ pl t % 3 = r
    · rw [if_pos e] at h'
      by_cases e2 : entr pl t p r = k
      · exact ⟨t, Nat.lt_succ_self t, e.1, e.2, e2⟩
      · obtain ⟨i, hi, a⟩ := entr_hit (pl := pl) (p := p) (r := r) (k := k) (t := t) (by omega)
        exact ⟨i, by omega, a⟩
    · rw [if_neg e] at h'
      obtain ⟨i, hi, a⟩ := entr_hit (pl := pl) (p := p) (r := r) (k := k) (t := t) (by omega)
      exact ⟨i, by omega, a⟩
theorem Walk.entr1 {R : Nat → Nat → Nat} {pl dg : Nat → Nat} {n : Nat} (W : Walk R pl dg n) (p r : Nat) : entr pl n p r ≤ 1 := by
  by_cases h : entr pl n p r ≤ 1
  · exact h
  · exfalso
    obtain ⟨i, hi, a1, a2, a3⟩ := entr_hit (pl := pl) (p := p) (r := r) (k := 0) (t := n) (by omega)
    obtain ⟨j, hj, b1, b2, b3⟩ := entr_hit (pl := pl) (p := p) (r := r) (k := 1) (t := n) (by omega)
    have : i = j := W.once hi hj (by rw [W.code hi, W.code hj, a1, b1, a2, b2])
    subst this
    omega
/-- A walk that is stuck is stuck at its start. -/
theorem Walk.home {R : Nat → Nat → Nat} {pl dg : Nat → Nat} {n : Nat} (W : Walk R pl dg n) (h : cnt pl n (pl n) = 3) : pl n = 0 := by
  by_cases e : pl n = 0
  · exact e
  · exfalso
    have a := ent_cnt (pl := pl) (pl n) n
    rw [if_pos rfl, W.p0, if_neg (Ne.symm e), h] at a
    have b := ent_split (pl := pl) (pl n) n
    have := W.entr1 (pl n) 0
    have := W.entr1 (pl n) 1
    have := W.entr1 (pl n) 2
    omega
def step (R : Nat → Nat → Nat) (p : Nat) : Nat := if p ≠ 0 then 3 * R p 2 + p / 3 else p
def iter (R : Nat → Nat → Nat) : Nat → Nat → Nat
  | 0, p => p
  | k + 1, p => step R (iter R k p)
theorem Walk.back {R : Nat → Nat → Nat} {pl dg : Nat → Nat} {n : Nat} (W : Walk R pl dg n) (h0 : pl n = 0) (hR : ∀ p < 9, ∀ k < 3, R p k < 3) {p : Nat} (hp : p < 9) (h : cnt pl n (step R p) = 3) : cnt pl n p = 3 := by
  unfold step at h
  by_cases e : p = 0
  · rw [if_neg (by simpa using e)] at h; exact h
  · rw [if_pos e] at h
    have hr := hR p hp 2 (by omega)
    generalize hq : 3 * R p 2 + p / 3 = q at h
    have a := ent_cnt (pl := pl) q n
    rw [h0, W.p0] at a
    have b := ent_split (pl := pl) q n
    have e0 := W.entr1 q 0
    have e1 := W.entr1 q 1
    have e2 := W.entr1 q 2
    have hm : p % 3 = 0 ∨ p % 3 = 1 ∨ p % 3 = 2 := by omega
    have hpos : 0 < entr pl n q (p % 3) := by rcases hm with m | m | m <;> rw [m] <;> omega
    obtain ⟨i, hi, c1, c2, _⟩ := entr_hit hpos
    have hpi := W.lt i (by omega)
    have hd := W.d3 i hi
    have hs := W.st i hi
    rw [c1] at hs
    have ep : pl i = p := by omega
    have ed : dg i = R p 2 := by omega
    rw [W.ex i hi, ep] at ed
    have hc := W.c3 i hi
    rw [ep] at hc
    have hk := W.inj p hp _ _ hc (by omega) ed
    have := cnt_at (pl := pl) hi
    rw [ep] at this
    have := W.le3 p n (Nat.le_refl _)
    omega
theorem Walk.all_of_home {R : Nat → Nat → Nat} {pl dg : Nat → Nat} {n : Nat} (W : Walk R pl dg n) (h3 : cnt pl n (pl n) = 3) (hR : ∀ p < 9, ∀ k < 3, R p k < 3) (hh : ∀ p < 9, iter R 9 p = 0) : n = 27 := by
  have h0 := W.home h3
  rw [h0] at h3
  have stl : ∀ p < 9, step R p < 9 := fun p hp => by
    unfold step
    have := hR p hp 2 (by omega)
    split <;> omega
  have itl : ∀ k p, p < 9 → iter R k p < 9 := by
    intro k
    induction k with
    | zero => intro p hp; exact hp
    | succ k ih => intro p hp; exact stl _ (ih p hp)
  have bk : ∀ k p, p < 9 → cnt pl n (iter R k p) = 3 → cnt pl n p = 3 := by
    intro k
    induction k with
    | zero => intro p _ h; exact h
    | succ k ih => intro p hp h; exact ih p hp (W.back h0 hR (itl k p hp) h)
  have all : ∀ p < 9, cnt pl n p = 3 := fun p hp => bk 9 p hp (by rw [hh p hp]; exact h3)
  have a := tot_cnt (pl := pl) (k := 9) n (fun i hi => W.lt i (by omega))
  have t : tot (cnt pl n) 9 = 27 := by
    show 0 + cnt pl n 0 + cnt pl n 1 + cnt pl n 2 + cnt pl n 3 + cnt pl n 4 + cnt pl n 5 + cnt pl n 6 + cnt pl n 7 + cnt pl n 8 = 27
    rw [all 0 (by omega), all 1 (by omega), all 2 (by omega), all 3 (by omega), all 4 (by omega), all 5 (by omega), all 6 (by omega), all 7 (by omega), all 8 (by omega)]
  omega
theorem tot_mono {f g : Nat → Nat} : ∀ k, (∀ q < k, f q ≤ g q) → tot f k ≤ tot g k
  | 0, _ => Nat.le_refl _
  | k + 1, h => by
    have a := tot_mono k (fun q hq => h q (Nat.lt_succ_of_lt hq))
    have b := h k (Nat.lt_succ_self k)
    show tot f k + f k ≤ tot g k + g k
    omega
theorem tot_lt {f g : Nat → Nat} {p : Nat} : ∀ k, (∀ q < k, f q ≤ g q) → p < k → f p + 1 ≤ g p → tot f k + 1 ≤ tot g k
  | 0, _, hp, _ => absurd hp (Nat.not_lt_zero _)
  | k + 1, h, hp, hl => by
    have b := h k (Nat.lt_succ_self k)
    show tot f k + f k + 1 ≤ tot g k + g k
    by_cases e : p = k
    · subst e
      have a := tot_mono p (fun q hq => h q (Nat.lt_succ_of_lt hq))
      omega
    · have a := tot_lt k (fun q hq => h q (Nat.lt_succ_of_lt hq)) (by omega) hl
      omega
theorem tot_ge {f : Nat → Nat} {p : Nat} : ∀ k, p < k → f p ≤ tot f k
  | 0, hp => absurd hp (Nat.not_lt_zero _)
  | k + 1, hp => by
    show f p ≤ tot f k + f k
    by_cases e : p = k
    · subst e; omega
    · have := tot_ge (f := f) (p := p) k (by omega); omega
/-- How many places have not yet been left for the last time. -/
def open' (pl : Nat → Nat) (t : Nat) : Nat := tot (fun q => if cnt pl t q < 3 then 1 else 0) 9
theorem open_mono {pl : Nat → Nat} {t s : Nat} (h : t ≤ s) : open' pl s ≤ open' pl t := tot_mono 9 (fun q _ => by
  have := cnt_mono (pl := pl) (p := q) h
  by_cases a : cnt pl s q < 3
  · rw [if_pos a, if_pos (by omega)]; exact Nat.le_refl _
  · rw [if_neg a]; omega)
theorem iter_succ (R : Nat → Nat → Nat) (p : Nat) : ∀ k, iter R (k + 1) p = iter R k (step R p)
  | 0 => rfl
  | k + 1 => by
    show step R (iter R (k + 1) p) = step R (iter R k (step R p))
    rw [iter_succ R p k]
theorem iter_zero (R : Nat → Nat → Nat) : ∀ k, iter R k 0 = 0
  | 0 => rfl
  | k + 1 => by
    show step R (iter R k 0) = 0
    rw [iter_zero R k]; rfl
theorem Walk.fwd {R : Nat → Nat → Nat} {pl dg : Nat → Nat} {n : Nat} (W : Walk R pl dg n) (h0 : pl n = 0) (all : ∀ p < 9, cnt pl n p = 3) : ∀ (k i : Nat), i < n → cnt pl i (pl i) = 2 → open' pl i ≤ k → iter R k (pl i) = 0
  | 0, i, hi, h2, ho => by
    exfalso
    have := tot_ge (f := fun q => if cnt pl i q < 3 then 1 else 0) (p := pl i) 9 (W.lt i (by omega))
    have e : open' pl i = tot (fun q => if cnt pl i q < 3 then 1 else 0) 9 := rfl
    rw [if_pos (by omega)] at this
    omega
  | k + 1, i, hi, h2, ho => by
    by_cases e : pl i = 0
    · rw [e]; exact iter_zero R _
    · rw [iter_succ]
      have hs : step R (pl i) = pl (i + 1) := by
        unfold step
        rw [if_pos e, W.st i hi, W.ex i hi, h2]
      rw [hs]
      by_cases e2 : pl (i + 1) = 0
      · rw [e2]; exact iter_zero R _
      · have hi1 : i + 1 < n := by
          by_cases e3 : i + 1 = n
          · exact absurd (e3 ▸ h0) e2
          · omega
        obtain ⟨j, hj, c1, c2⟩ := cnt_hit (pl := pl) (p := pl (i + 1)) (k := 2) (t := n) (by rw [all _ (W.lt _ (by omega))]; omega)
        have hij : i + 1 ≤ j := by
          by_cases hlt : i + 1 ≤ j
          · exact hlt
          · exfalso
            have a := cnt_at (pl := pl) (i := j) (j := i + 1) (by omega)
            rw [c1, c2] at a
            have b := W.c3 (i + 1) hi1
            omega
        have ho2 : open' pl j + 1 ≤ open' pl i := by
          have a := open_mono (pl := pl) hij
          have b : open' pl (i + 1) + 1 ≤ open' pl i := tot_lt 9 (fun q _ => by
            have := cnt_mono (pl := pl) (p := q) (t := i) (s := i + 1) (by omega)
            by_cases a : cnt pl (i + 1) q < 3
            · rw [if_pos a, if_pos (by omega)]; exact Nat.le_refl _
            · rw [if_neg a]; omega) (W.lt i (by omega)) (by
            have hc : cnt pl (i + 1) (pl i) = 3 := by show cnt pl i (pl i) + _ = 3; rw [if_pos rfl, h2]
            rw [hc, h2]; decide)
          omega
        rw [← c1]
        exact W.fwd h0 all k j hj (by rw [c1]; exact c2) (by omega)
theorem Walk.home_of_all {R : Nat → Nat → Nat} {pl dg : Nat → Nat} {n : Nat} (W : Walk R pl dg n) (h3 : cnt pl n (pl n) = 3) (hn : n = 27) : ∀ p < 9, iter R 9 p = 0 := by
  have h0 := W.home h3
  have a := tot_cnt (pl := pl) (k := 9) n (fun i hi => W.lt i (by omega))
  have all : ∀ p < 9, cnt pl n p = 3 := by
    intro p hp
    have b := W.le3 p n (Nat.le_refl _)
    by_cases e : cnt pl n p = 3
    · exact e
    · exfalso
      have := tot_lt (f := cnt pl n) (g := fun _ => 3) (p := p) 9 (fun q _ => W.le3 q n (Nat.le_refl _)) hp (by show _ + 1 ≤ 3; omega)
      have t3 : tot (fun _ => 3) 9 = 27 := rfl
      omega
  intro p hp
  obtain ⟨i, hi, c1, c2⟩ := cnt_hit (pl := pl) (p := p) (k := 2) (t := n) (by rw [all p hp]; omega)
  rw [← c1]
  refine W.fwd h0 all 9 i hi (by rw [c1]; exact c2) ?_
  have := tot_le (f := fun q => if cnt pl i q < 3 then 1 else 0) (b := 1) 9 (fun q _ => by split <;> omega)
  exact this
end Best
end Mine
end
theorem Mine.fresh54 : True := by
  w_top off
  trivial
section
local macro_rules | `(tactic| omega) => `(tactic| omega (config := {}))
open PySem PySem.W PyProof.Rows PySem.Calls
set_option maxRecDepth 100000
namespace Mine
namespace Nst
section
variable {prog : Program} {w : World} {A : Around} {R : Result → Shared → Prop} {s : Shared} {elt : Expr} {g1 g2 g3 : Comprehension} {x1 x2 x3 : Str} {p1 p2 p3 : Pos} {i1 i2 i3 : Expr} {scope : Scope} {pos : Pos} {acc : Value} {env : Env} {it sa : Addr} {items : Array Value}
abbrev E3 (elt : Expr) (x1 x2 x3 : Str) (p1 p2 p3 : Pos) (i1 i2 i3 : Expr) (scope : Scope) (pos : Pos) : Expr := .ListComp elt [⟨.Name x1 p1, i1, [], 0⟩, ⟨.Name x2 p2, i2, [], 0⟩, ⟨.Name x3 p3, i3, [], 0⟩] scope pos
def goIn (e : Expr) (d : Nat) (iter : Expr) (acc : Value) (env : Env) (k : Sem Fin) : Sem Fin :=
  eval iter env >>= fun x => standAt iter.pos >>= fun _ => foldedSetIterable iter env x >>= fun x => holding [x] (pyIter x) >>= fun i => runOwn (.compStart e d i acc env) env >>= fun _ => k
def turnOf (x : Str) (p : Pos) (i : Expr) (it : Value) (env : Env) (T : Sem Fin → Sem Fin) (k : Sem Fin) : Sem Fin := standAt i.pos >>= fun _ => pyNext it >>= fun r => match r with
      | none => pure (.done .next)
      | some v => letOwnedTupleGo (.Name x p) it v >>= fun _ => assign (.Name x p) env v >>= fun _ => T k
theorem turn_0 (it : Value) : compTurn (E3 elt x1 x2 x3 p1 p2 p3 i1 i2 i3 scope pos) 0 it acc env = turnOf x1 p1 i1 it env (goIn (E3 elt x1 x2 x3 p1 p2 p3 i1 i2 i3 scope pos) 1 i2 acc env) (again (.compLoop (E3 elt x1 x2 x3 p1 p2 p3 i1 i2 i3 scope pos) 0 it acc env)) := by
  rfl
theorem turn_1 (it : Value) : compTurn (E3 elt x1 x2 x3 p1 p2 p3 i1 i2 i3 scope pos) 1 it acc env = turnOf x2 p2 i2 it env (goIn (E3 elt x1 x2 x3 p1 p2 p3 i1 i2 i3 scope pos) 2 i3 acc env) (again (.compLoop (E3 elt x1 x2 x3 p1 p2 p3 i1 i2 i3 scope pos) 1 it acc env)) := by
  rfl
theorem turn_2 (it : Value) : compTurn (E3 elt x1 x2 x3 p1 p2 p3 i1 i2 i3 scope pos) 2 it acc env = turnOf x3 p3 i3 it env (fun k => (eval elt env >>= fun x => call (.builtin "list.append") [acc, x] >>= fun _ => pure ()) >>= fun _ => k) (again (.compLoop (E3 elt x1 x2 x3 p1 p2 p3 i1 i2 i3 scope pos) 2 it acc env)) := by
  rfl
/-- One level of a nest of for clauses over lists. -/
theorem lvl {d : Nat} {x : Str} {p : Pos} {i : Expr} {T : Sem Fin → Sem Fin} (hh : A.handled = none)
    (hT : compTurn (E3 elt x1 x2 x3 p1 p2 p3 i1 i2 i3 scope pos) d (.ref it) acc env = turnOf x p i (.ref it) env T (again (.compLoop (E3 elt x1 x2 x3 p1 p2 p3 i1 i2 i3 scope pos) d (.ref it) acc env)))
    (hit : s.heap.IsListIter it sa 0) (J : Nat → Heap → Prop) (Jl : ∀ i h, J i h → h.IsList sa items) (Jk : ∀ i h h', J i h → (∃ k, h.IsListIter it sa k) → Heap.ExtBut it h h' → J i h')
    (turn : ∀ j v s₁ (k : Sem Fin) (Qk : Fin → Shared → Prop) (Ek : Value → Shared → Prop), items[j]? = some v → J j s₁.heap → s₁.heap.IsListIter it sa (j + 1) → (∃ h tk, s₁ = { s with heap := h, toks := tk }) →
      (∀ s₂, J (j + 1) s₂.heap → s₂.heap.IsListIter it sa (j + 1) → (∃ h tk, s₂ = { s with heap := h, toks := tk }) → wpAny (model prog w) A k Qk Ek s₂) → wpAny (model prog w) A (assign (.Name x p) env v >>= fun _ => T k) Qk Ek s₁)
    (h0 : J 0 s.heap) (done : ∀ s', J items.size s'.heap → (∃ h tk, s' = { s with heap := h, toks := tk }) → R (.ok .next) s') :
    codeAny (model prog w) A (.compLoop (E3 elt x1 x2 x3 p1 p2 p3 i1 i2 i3 scope pos) d (.ref it) acc env) R s := by
  refine codeAny_loop rfl (fun n s' => ∃ j, n = items.size + 1 - j ∧ j ≤ items.size ∧ J j s'.heap ∧ s'.heap.IsListIter it sa j ∧ ∃ h tk, s' = { s with heap := h, toks := tk }) (fun n s' hI => ?_) (items.size + 1) ⟨0, rfl, Nat.zero_le _, h0, hit, s.heap, s.toks, rfl⟩
  obtain ⟨j, rfl, hj, hJ, hi, hs⟩ := hI
  show wpAny _ A ((compTurn (E3 elt x1 x2 x3 p1 p2 p3 i1 i2 i3 scope pos) d (.ref it) acc env).onRaise (fun x => do noteFrame x env; theTreesLotGoes x)) _ _ s'
  refine wpAny_noted ?_
  rw [hT]
  unfold turnOf
  refine wpAny_bind (wpAny_standAt (wpAny_bind ?_))
  cases hv : items[j]? with
  | none =>
    have hsz : j = items.size := Nat.le_antisymm hj (by simpa using hv)
    refine wpAny_pyNext_list_end hh hi (Jl _ _ hJ) hv fun h₁ hs₁ => ?_
    obtain ⟨h9, tk9, rfl⟩ := hs
    exact wpAny_pure (done _ (hsz ▸ Jk _ _ _ hJ ⟨_, hi⟩ hs₁) ⟨h₁, tk9, rfl⟩)
  | some v =>
    have hlt : j < items.size := (Array.getElem?_eq_some_iff.mp hv).1
    refine wpAny_pyNext_list_item hi (Jl _ _ hJ) hv fun h₁ hi₁ hs₁ => ?_
    refine wpAny_bind (wpAny_pure ?_)
    refine turn j v _ _ _ _ hv (Jk _ _ _ hJ ⟨_, hi⟩ hs₁.extBut) hi₁ (by obtain ⟨h9, tk9, rfl⟩ := hs; exact ⟨h₁, tk9, rfl⟩) fun s₂ hJ₂ hi₂ hs₂ => ?_
    exact wpAny_pure ⟨rfl, items.size + 1 - (j + 1), by omega, j + 1, rfl, hlt, hJ₂, hi₂, hs₂⟩
end
end Nst
end Mine
end
theorem Mine.fresh55 : True := by
  w_top off
  trivial
section
open PySem PySem.W PyProof.Rows
set_option maxRecDepth 100000
set_option maxHeartbeats 8000000
namespace Mine

open PySem.Calls Nst
section
variable {prog : Program} {w : World} {A : Around} {E : Value → Shared → Prop} {R : Result → Shared → Prop} {s : Shared} {h₀ : Heap} {L C D sa : Addr} {m : Str → Option Value} {base : List (Addr × Obj)} {n1 n2 : Int} {sg : Nat → Addr} {sv : Nat → Array Value}
def mkL (rs : Nat → Addr) (rv : Nat → Array Value) (k : Nat) : List (Addr × Obj) := (List.range k).map fun j => (rs j, listOf (rv j) 0)
def toldC (n1 n2 : Int) (q : Nat) : List Cell := signC n1 n2 (q / 9) ++ signC n1 n2 (q / 3 % 3) ++ signC n1 n2 (q % 3)
/-- The ledger while the nest of clauses runs. -/
def NJ (h₀ : Heap) (L C D : Addr) (m : Str → Option Value) (base : List (Addr × Obj)) (n1 n2 : Int) (k : Nat) (mc : Str → Option Value) (h : Heap) : Prop :=
  ∃ (rs : Nat → Addr) (rv : Nat → Array Value) (oC : Obj), Fr h₀ L h m ∧ News h₀ L h ((C, oC) :: (D, LCg.lst (refsOf rs k)) :: (mkL rs rv k ++ base)) ∧ LCg.NsObj oC mc ∧ (∀ p ∈ mkL rs rv k, p.1 ≠ C ∧ p.1 ≠ D ∧ ∀ q ∈ base, q.1 ≠ p.1) ∧ ∀ j < k, Cells (rv j).toList (toldC n1 n2 j)
structure Gd (h₀ : Heap) (L C D sa : Addr) (base : List (Addr × Obj)) (sg : Nat → Addr) (sv : Nat → Array Value) (n1 n2 : Int) : Prop where
  CD : C ≠ D
  off : ∀ p ∈ base, p.1 ≠ C ∧ p.1 ≠ D
  msa : (sa, listOf #[.ref (sg 0), .ref (sg 1), .ref (sg 2)] 0) ∈ base
  msg : ∀ i < 3, (sg i, listOf (sv i) 0) ∈ base
  cel : ∀ i < 3, Cells (sv i).toList (signC n1 n2 i)
theorem NJ.signs {G : Gd h₀ L C D sa base sg sv n1 n2} {k : Nat} {mc : Str → Option Value} {h : Heap} (J : NJ h₀ L C D m base n1 n2 k mc h) : h.IsList sa #[.ref (sg 0), .ref (sg 1), .ref (sg 2)] := by
  obtain ⟨rs, rv, oC, F, N, _⟩ := J
  exact isList_of N (.tail _ (.tail _ (List.mem_append_right _ G.msa)))
theorem iter_ne {h : Heap} {it b : Addr} {ob : Obj} {k : Nat} (hi : ∃ l, h.IsListIter it l k) (hb : h.get? b = some ob) (hc : ob.cls ≠ .type "list_iterator") : b ≠ it := fun e => by
  obtain ⟨l, o, e1, e2, _⟩ := hi
  rw [e, e1] at hb
  cases hb
  exact hc e2
theorem NJ.ext {k i : Nat} {mc : Str → Option Value} {h h' : Heap} {it : Addr} (J : NJ h₀ L C D m base n1 n2 k mc h) (hi : ∃ i, h.IsListIter it sa i) (hx : Heap.ExtBut it h h') (i0 : h₀.get? it = none) (iL : L ≠ it) (iC : C ≠ it) (iD : D ≠ it) (ib : ∀ p ∈ base, p.1 ≠ it) : NJ h₀ L C D m base n1 n2 k mc h' := by
  obtain ⟨rs, rv, oC, F, N, X⟩ := J
  refine ⟨rs, rv, oC, fr_ext F hx i0 iL, news_ext N hx (fun p hp => ?_), X⟩
  rcases List.mem_cons.mp hp with rfl | hp
  · exact iC
  · rcases List.mem_cons.mp hp with rfl | hp
    · exact iD
    · rcases List.mem_append.mp hp with hq | hq
      · obtain ⟨i, hi⟩ := hi
        obtain ⟨j, _, rfl⟩ := List.mem_map.mp hq
        exact iter_ne ⟨_, hi⟩ (N _ (.tail _ (.tail _ (List.mem_append_left _ hq)))).1 (by show Value.type "list" ≠ _; decide)
      · exact ib p hq
/-- A name of the block's own takes a value. -/
theorem NJ.set {G : Gd h₀ L C D sa base sg sv n1 n2} {k : Nat} {mc mc' : Str → Option Value} {h h' : Heap} (J : NJ h₀ L C D m base n1 n2 k mc h) (hn : h'.Ns C mc') (hs : Heap.SameBut C h h') : NJ h₀ L C D m base n1 n2 k mc' h' := by
  obtain ⟨rs, rv, oC, F, N, hC, hd, hc⟩ := J
  obtain ⟨_, cL, c0⟩ := N _ (.head _)
  obtain ⟨oC', e, hC'⟩ := LCg.ns_obj hn
  refine ⟨rs, rv, oC', F.change hs cL c0, fun p hp => ?_, hC', hd, hc⟩
  rcases List.mem_cons.mp hp with rfl | hp
  · exact ⟨e, cL, c0⟩
  · obtain ⟨a, b⟩ := N p (.tail _ hp)
    refine ⟨(hs.2 _ ?_).trans a, b⟩
    rcases List.mem_cons.mp hp with rfl | hp
    · exact Ne.symm G.CD
    · rcases List.mem_append.mp hp with hq | hq
      · exact (hd p hq).1
      · exact (G.off p hq).1
theorem NJ.ns {k : Nat} {mc : Str → Option Value} {h : Heap} (J : NJ h₀ L C D m base n1 n2 k mc h) : h.Ns C mc := by
  obtain ⟨rs, rv, oC, F, N, hC, _⟩ := J
  exact hC.ns (N _ (.head _)).1
theorem NJ.add {k i : Nat} {mc : Str → Option Value} {h : Heap} {it : Addr} {oit : Obj} (J : NJ h₀ L C D m base n1 n2 k mc h) (hi : ∃ l, h.IsListIter it l i) (e : h.get? it = some oit) (i0 : h₀.get? it = none) (iL : it ≠ L) : NJ h₀ L C D m ((it, oit) :: base) n1 n2 k mc h := by
  obtain ⟨rs, rv, oC, F, N, hC, hd, hc⟩ := J
  refine ⟨rs, rv, oC, F, fun p hp => ?_, hC, fun p hp => ⟨(hd p hp).1, (hd p hp).2.1, fun q hq => ?_⟩, hc⟩
  · rcases List.mem_cons.mp hp with rfl | hp
    · exact N _ (.head _)
    · rcases List.mem_cons.mp hp with rfl | hp
      · exact N _ (.tail _ (.head _))
      · rcases List.mem_append.mp hp with hq | hq
        · exact N _ (.tail _ (.tail _ (List.mem_append_left _ hq)))
        · rcases List.mem_cons.mp hq with rfl | hq
          · exact ⟨e, iL, i0⟩
          · exact N _ (.tail _ (.tail _ (List.mem_append_right _ hq)))
  · rcases List.mem_cons.mp hq with rfl | hq
    · obtain ⟨j, _, rfl⟩ := List.mem_map.mp hp
      exact (Ne.symm (iter_ne hi (N _ (.tail _ (.tail _ (List.mem_append_left _ hp)))).1 (by show Value.type "list" ≠ _; decide)))
    · exact (hd p hp).2.2 q hq
theorem NJ.drop {k : Nat} {mc : Str → Option Value} {h : Heap} {x : Addr × Obj} (J : NJ h₀ L C D m (x :: base) n1 n2 k mc h) : NJ h₀ L C D m base n1 n2 k mc h ∧ h.get? x.1 = some x.2 := by
  obtain ⟨rs, rv, oC, F, N, hC, hd, hc⟩ := J
  refine ⟨⟨rs, rv, oC, F, fun p hp => ?_, hC, fun p hp => ⟨(hd p hp).1, (hd p hp).2.1, fun q hq => (hd p hp).2.2 q (.tail _ hq)⟩, hc⟩, (N _ (.tail _ (.tail _ (List.mem_append_right _ (.head _))))).1⟩
  rcases List.mem_cons.mp hp with rfl | hp
  · exact N _ (.head _)
  · rcases List.mem_cons.mp hp with rfl | hp
    · exact N _ (.tail _ (.head _))
    · rcases List.mem_append.mp hp with hq | hq
      · exact N _ (.tail _ (.tail _ (List.mem_append_left _ hq)))
      · exact N _ (.tail _ (.tail _ (List.mem_append_right _ (.tail _ hq))))
theorem Gd.add {it : Addr} {oit : Obj} (G : Gd h₀ L C D sa base sg sv n1 n2) (iC : it ≠ C) (iD : it ≠ D) : Gd h₀ L C D sa ((it, oit) :: base) sg sv n1 n2 :=
  ⟨G.CD, fun p hp => (List.mem_cons.mp hp).elim (fun e => e ▸ ⟨iC, iD⟩) (G.off p), .tail _ G.msa, fun i hi => .tail _ (G.msg i hi), G.cel⟩
theorem mkL_snoc (rs : Nat → Addr) (rv : Nat → Array Value) (a : Addr) (v : Array Value) (k : Nat) : mkL (fun j => if j = k then a else rs j) (fun j => if j = k then v else rv j) (k + 1) = mkL rs rv k ++ [(a, listOf v 0)] := by
  unfold mkL
  rw [List.range_succ, List.map_append]
  congr 1
  · refine List.map_congr_left fun j hj => ?_
    have : j < k := List.mem_range.mp hj
    simp only [if_neg (Nat.ne_of_lt this)]
  · simp
/-- One item of the nest. -/
theorem emit {x1 x2 x3 : Str} {q1 q2 q3 q4 q5 : Pos} {scope : Scope} {cl : List (Str × Addr)} {env : Env} {mc : Str → Option Value} {k a b c : Nat} (G : Gd h₀ L C D sa base sg sv n1 n2) (J : NJ h₀ L C D m base n1 n2 k mc s.heap)
    (hk : (compEnvC scope cl C env).scope.kind = .function) (l1 : (compEnvC scope cl C env).kindOf x1 = some .local) (l2 : (compEnvC scope cl C env).kindOf x2 = some .local) (l3 : (compEnvC scope cl C env).kindOf x3 = some .local)
    (d1 : (x1 == ("__debug__" : Str)) = false) (d2 : (x2 == ("__debug__" : Str)) = false) (d3 : (x3 == ("__debug__" : Str)) = false)
    (o1 : mc x1 = some (.ref (sg a))) (o2 : mc x2 = some (.ref (sg b))) (o3 : mc x3 = some (.ref (sg c))) (ha : a < 3) (hb : b < 3) (hc : c < 3) (hq : k = 9 * a + 3 * b + c) {Qk : Value → Shared → Prop} {Ek : Value → Shared → Prop}
    (h : ∀ s', NJ h₀ L C D m base n1 n2 (k + 1) mc s'.heap → (∃ h tk, s' = { s with heap := h, toks := tk }) → Qk .none s') :
    wpAny (model prog w) A (eval (.BinOp (.BinOp (.Name x1 q1) .Add (.Name x2 q2) q3) .Add (.Name x3 q4) q5) (compEnvC scope cl C env) >>= fun x => call (.builtin "list.append") [.ref D, x]) Qk Ek s := by
  obtain ⟨rs, rv, oC, F, N, hC, hd, hce⟩ := J
  have szl : sizeLine = 16777216 := rfl
  have len : ∀ i < 3, (sv i).size = 2 := fun i hi => by
    rw [← Array.length_toList, (G.cel i hi).length]; exact signC_len _ _ _
  have mS : ∀ i < 3, (sg i, listOf (sv i) 0) ∈ ((C, oC) :: (D, LCg.lst (refsOf rs k)) :: (mkL rs rv k ++ base)) := fun i hi => .tail _ (.tail _ (List.mem_append_right _ (G.msg i hi)))
  refine wpAny_bind (wpAny_BinOp (wpAny_BinOp (LCgL.ld_own N (.head _) hC o1 (LCgL.ld_own N (.head _) hC o2 ?_ hk l2 d2) hk l1 d1)))
  refine kmk_add_lit (zs := (sv a).toList ++ (sv b).toList) F N (isList_of N (mS a ha)) (isList_of N (mS b hb)) rfl (fun D1 h1 F1 N1 lt1 => ?_) (by rw [Array.length_toList, Array.length_toList, len a ha, len b hb, szl]; decide)
  refine LCgL.ld_own N1 (.tail _ (.head _)) hC o3 ?_ hk l3 d3
  refine kmk_add_lit (zs := (sv a).toList ++ (sv b).toList ++ (sv c).toList) F1 N1 (isList_of N1 (.head _)) (isList_of N1 (.tail _ (mS c hc))) rfl (fun D2 h2 F2 N2 lt2 => ?_) (by rw [List.length_append, Array.length_toList, Array.length_toList, Array.length_toList, len a ha, len b hb, len c hc, szl]; decide)
  have N3 : News h₀ L h2 ((D, LCg.lst (refsOf rs k)) :: (C, oC) :: (mkL rs rv k ++ [(D2, listOf ((sv a).toList ++ (sv b).toList ++ (sv c).toList).toArray 0)] ++ base)) := fun p hp => by
    rcases List.mem_cons.mp hp with rfl | hp
    · exact N2 _ (.tail _ (.tail _ (.tail _ (.head _))))
    · rcases List.mem_cons.mp hp with rfl | hp
      · exact N2 _ (.tail _ (.tail _ (.head _)))
      · rcases List.mem_append.mp hp with hp | hp
        · rcases List.mem_append.mp hp with hp | hp
          · exact N2 _ (.tail _ (.tail _ (.tail _ (.tail _ (List.mem_append_left _ hp)))))
          · rw [List.mem_singleton.mp hp]; exact N2 _ (.head _)
        · exact N2 _ (.tail _ (.tail _ (.tail _ (.tail _ (List.mem_append_right _ hp)))))
  have hD2 : ∀ p ∈ ((C, oC) :: (D, LCg.lst (refsOf rs k)) :: (mkL rs rv k ++ base)), p.1 < D2 := fun p hp => lt2 p (.tail _ hp)
  refine append_K (its := (refsOf rs k).toArray) (n := (refsOf rs k).length) F2 N3 (.head (fun p hp => ?_)) (fun h3 F3 N4 => ?_) (by rw [szl]; simp [refsOf]; omega)
  · rcases List.mem_cons.mp hp with rfl | hp
    · exact G.CD
    · rcases List.mem_append.mp hp with hp | hp
      · rcases List.mem_append.mp hp with hp | hp
        · exact (hd p hp).2.1
        · rw [List.mem_singleton.mp hp]; exact Nat.ne_of_gt (hD2 _ (.tail _ (.head _)))
      · exact (G.off p hp).2
  · refine h _ ⟨fun j => if j = k then D2 else rs j, fun j => if j = k then ((sv a).toList ++ (sv b).toList ++ (sv c).toList).toArray else rv j, oC, F3, ?_, hC, ?_, ?_⟩ ⟨h3, _, rfl⟩
    · rw [mkL_snoc, ← refsOf_snoc]
      intro p hp
      rcases List.mem_cons.mp hp with rfl | hp
      · exact N4 _ (.tail _ (.head _))
      · rcases List.mem_cons.mp hp with rfl | hp
        · have := N4 _ (.head _)
          refine ⟨this.1.trans ?_, this.2⟩
          show some (listOf ((refsOf rs k).toArray.push (.ref D2)) ((refsOf rs k).length + 1)) = _
          exact congrArg some (LCg.lst_snoc _ _)
        · exact N4 _ (.tail _ (.tail _ hp))
    · rw [mkL_snoc]
      intro p hp
      rcases List.mem_append.mp hp with hp | hp
      · exact hd p hp
      · rw [List.mem_singleton.mp hp]
        exact ⟨Nat.ne_of_gt (hD2 _ (.head _)), Nat.ne_of_gt (hD2 _ (.tail _ (.head _))), fun q hq => Nat.ne_of_lt (hD2 q (.tail _ (.tail _ (List.mem_append_right _ hq))))⟩
    · intro j hj
      by_cases e : j = k
      · subst e
        simp only [if_true]
        unfold toldC
        rw [show j / 9 = a by omega, show j / 3 % 3 = b by omega, show j % 3 = c by omega]
        exact ((G.cel a ha).append (G.cel b hb)).append (G.cel c hc)
      · simp only [if_neg e]
        exact hce j (by omega)
end
end Mine
end
theorem Mine.fresh56 : True := by
  w_top off
  trivial
section
open PySem PySem.W PyProof.Rows
set_option maxRecDepth 100000
set_option maxHeartbeats 8000000
namespace Mine

section
variable {w : World} {fa : Addr} {cdv : Value} {L : Addr} {Q : Flow → Shared → Prop} {E : Value → Shared → Prop} {s : Shared}
theorem seqA {B : List Stmt} (k j : Nat) (h : wpAny (model PR w) (lawA L fa cdv) (execs ((B.drop k).take j) (lawEnv L fa cdv)) (fun f s' => match f with | .next => wpAny (model PR w) (lawA L fa cdv) (execs (B.drop (k + j)) (lawEnv L fa cdv)) Q E s' | f => Q f s') E s) :
    wpAny (model PR w) (lawA L fa cdv) (execs (B.drop k) (lawEnv L fa cdv)) Q E s := by
  rw [← List.take_append_drop j (B.drop k), List.drop_drop, Mine.execs_append]
  refine wpAny_bind (wpAny_mono h (fun f s' h' => ?_) fun _ _ e => e)
  cases f with
  | next => exact h'
  | _ => exact wpAny_pure h'
theorem seqH {B : List Stmt} (k j : Nat) (h : wpH (model PR w) (lawA L fa cdv) (execs ((B.drop k).take j) (lawEnv L fa cdv)) (fun f s' => match f with | .next => wpH (model PR w) (lawA L fa cdv) (execs (B.drop (k + j)) (lawEnv L fa cdv)) Q E s' | f => Q f s') E s) :
    wpH (model PR w) (lawA L fa cdv) (execs (B.drop k) (lawEnv L fa cdv)) Q E s := by
  rw [← List.take_append_drop j (B.drop k), List.drop_drop]
  exact wpH.execs_append h
end
theorem nat3 {a : Int} (h : 0 ≤ a ∧ a < 3) : ∃ n : Nat, n < 3 ∧ a = (n : Int) := ⟨a.toNat, (Int.toNat_lt h.1).mpr h.2, (Int.toNat_of_nonneg h.1).symm⟩
theorem dg_step {d a b : Int} (hd : 0 ≤ d ∧ d < 3) (ha : 0 ≤ a ∧ a < 3) (hb : 0 ≤ b ∧ b < 3) : (3 * d + a).toNat = 3 * d.toNat + (3 * a + b).toNat / 3 := by
  obtain ⟨D, _, rfl⟩ := nat3 hd
  obtain ⟨A, _, rfl⟩ := nat3 ha
  obtain ⟨B, h, rfl⟩ := nat3 hb
  show 3 * D + A = 3 * D + (3 * A + B) / 3
  rw [Nat.mul_add_div (by decide), Nat.div_eq_of_lt h, Nat.add_zero]
theorem dg_sum {a b : Int} (ha : 0 ≤ a ∧ a < 3) (hb : 0 ≤ b ∧ b < 3) : (3 * a + b).toNat = 3 * a.toNat + b.toNat := by
  obtain ⟨A, _, rfl⟩ := nat3 ha
  obtain ⟨B, _, rfl⟩ := nat3 hb
  rfl
theorem dg_lt9 {a b : Int} (ha : 0 ≤ a ∧ a < 3) (hb : 0 ≤ b ∧ b < 3) : (3 * a + b).toNat < 9 := by
  obtain ⟨A, h, rfl⟩ := nat3 ha
  obtain ⟨B, h', rfl⟩ := nat3 hb
  exact Nat.lt_of_le_of_lt (Nat.add_le_add (Nat.mul_le_mul_left 3 (Nat.le_of_lt_succ h)) (Nat.le_of_lt_succ h')) (by decide)
theorem dg_all {a b c : Int} (ha : 0 ≤ a ∧ a < 3) (hb : 0 ≤ b ∧ b < 3) (hc : 0 ≤ c ∧ c < 3) : (9 * a + 3 * b + c).toNat = 9 * a.toNat + (3 * b + c).toNat ∧ (9 * a + 3 * b + c).toNat < 27 ∧ (9 * a + 3 * b + c).toNat / 9 = a.toNat ∧ (9 * a + 3 * b + c).toNat / 3 % 3 = b.toNat ∧ (9 * a + 3 * b + c).toNat % 3 = c.toNat := by
  obtain ⟨A, h, rfl⟩ := nat3 ha
  obtain ⟨B, h', rfl⟩ := nat3 hb
  obtain ⟨C, h'', rfl⟩ := nat3 hc
  have key : ∀ A < 3, ∀ B < 3, ∀ C < 3, 9 * A + 3 * B + C = 9 * A + (3 * B + C) ∧ 9 * A + 3 * B + C < 27 ∧ (9 * A + 3 * B + C) / 9 = A ∧ (9 * A + 3 * B + C) / 3 % 3 = B ∧ (9 * A + 3 * B + C) % 3 = C := by decide
  exact key A h B h' C h''
def plP (past : List Int) (t : Nat) : Nat := (3 * past.getD (t + 2) 0 + past.getD (t + 1) 0).toNat
def dgP (past : List Int) (t : Nat) : Nat := (past.getD (t + 3) 0).toNat
def cdP (past : List Int) (t : Nat) : Nat := (9 * past.getD (t + 2) 0 + 3 * past.getD (t + 1) 0 + past.getD t 0).toNat
def Rr (cns : List Int) (p k : Nat) : Nat := ((exN (cns.getD p 0)).getD k 0).toNat
def numsOf (cns : List Int) : List Int := [0, num1 cns, num2 cns]
set_option genSizeOf false
set_option genInjectivity false
/-- The fixed objects of law's run. -/
structure Pk where
  na : Addr
  nvs : List Value
  oN : Obj
  sa : Addr
  oS : Obj
  sg : Nat → Addr
  sv : Nat → Array Value
  ea : Addr
  en : Nat
  es : Nat → Addr
  vs : Nat → List Value
  ns : Nat → Nat
  oP : Obj
  pa : Addr
  wa : Addr
  pla : Addr
/-- What stands through the loop. -/
structure Fix (L : Addr) (cns : List Int) (k : Pk) (R : List (Addr × Obj)) : Prop where
  mN : (L + 1, k.oN) ∈ R
  dN : k.oN.data = Data.cell (some (.ref k.na))
  mn : (k.na, listOf k.nvs.toArray 0) ∈ R
  hni : IntsAre k.nvs (numsOf cns)
  mS : (L + 1 + 1, k.oS) ∈ R
  dS : k.oS.data = Data.cell (some (.ref k.sa))
  msa : (k.sa, listOf #[.ref (k.sg 0), .ref (k.sg 1), .ref (k.sg 2)] 0) ∈ R
  msg : ∀ i < 3, (k.sg i, listOf (k.sv i) 0) ∈ R
  cel : ∀ i < 3, Cells (k.sv i).toList (signC (num1 cns) (num2 cns) i)
  sne : k.sg 0 ≠ k.sg 1 ∧ k.sg 0 ≠ k.sg 2 ∧ k.sg 1 ≠ k.sg 2
  mP : (L + 1 + 1 + 1 + 1, k.oP) ∈ R
  dP : k.oP.data = Data.cell (some (.ref k.pa))
  me : (k.ea, listOf (refsOf k.es 9).toArray k.en) ∈ R
  mes : ∀ i < 9, (k.es i, listOf (k.vs i).toArray (k.ns i)) ∈ R
  hrow : ∀ i < 9, IntsAre (k.vs i) (exN (cns.getD i 0))
  ap : ∀ q ∈ R, q.1 ≠ L + 1 + 1 + 1 + 1 + 1 ∧ q.1 ≠ L + 1 + 1 + 1 ∧ q.1 ≠ k.wa ∧ q.1 ≠ k.pla ∧ q.1 ≠ k.pa
  d1 : k.wa ≠ k.pla
  d2 : k.wa ≠ k.pa
  d3 : k.pla ≠ k.pa
  lo : L + 1 + 1 + 1 + 1 + 1 < k.wa ∧ L + 1 + 1 + 1 + 1 + 1 < k.pla ∧ L + 1 + 1 + 1 + 1 + 1 < k.pa
/-- The past of so many turns. -/
structure Past (cns past : List Int) (i : Nat) : Prop where
  len : past.length = i + 3
  z : ∀ j, j < 3 → past.getD j 0 = 0
  b : ∀ x ∈ past, 0 ≤ x ∧ x < 3
  W : Best.Walk (Rr cns) (plP past) (dgP past) i
def linesOf (past : List Int) (i : Nat) (k : Nat) : Str := lineAt k (Best.cnt (plP past) i k)
theorem num_bounds (cns : List Int) : 0 ≤ num1 cns ∧ num1 cns < num2 cns ∧ num2 cns < 100 := by
  unfold num1 num2
  omega
theorem nums_b (cns : List Int) : ∀ x ∈ numsOf cns, 0 ≤ x ∧ x < 100 := by
  have := num_bounds cns
  intro x hx
  simp only [numsOf, List.mem_cons, List.not_mem_nil, or_false] at hx
  rcases hx with rfl | rfl | rfl <;> omega
theorem exN_facts (c : Int) : (exN c).length = 3 ∧ (∀ x ∈ exN c, 0 ≤ x ∧ x < 3) ∧ ∀ a b, a < 3 → b < 3 → (exN c).getD a 0 = (exN c).getD b 0 → a = b := by
  have key : ∀ l : List Int, (l = [0,1,2] ∨ l = [0,2,1] ∨ l = [1,0,2] ∨ l = [1,2,0] ∨ l = [2,0,1] ∨ l = [2,1,0]) → l.length = 3 ∧ (∀ x ∈ l, 0 ≤ x ∧ x < 3) ∧ ∀ a b, a < 3 → b < 3 → l.getD a 0 = l.getD b 0 → a = b := by
    have fin : ∀ (l : List Int), (∀ a b : Fin 3, l.getD a.val 0 = l.getD b.val 0 → a = b) → ∀ a b, a < 3 → b < 3 → l.getD a 0 = l.getD b 0 → a = b := fun l h a b ha hb e => congrArg Fin.val (h ⟨a, ha⟩ ⟨b, hb⟩ e)
    rintro l (rfl | rfl | rfl | rfl | rfl | rfl) <;> exact ⟨rfl, by decide, fin _ (by decide)⟩
  apply key
  unfold exN
  split
  · simp
  · split
    · simp
    · split
      · simp
      · split
        · simp
        · split <;> simp
theorem Rr_cast (cns : List Int) (p k : Nat) : ((Rr cns p k : Nat) : Int) = (exN (cns.getD p 0)).getD k 0 := by
  unfold Rr
  obtain ⟨_, h, _⟩ := exN_facts (cns.getD p 0)
  apply Int.toNat_of_nonneg
  rw [List.getD_eq_getElem?_getD]
  cases e : (exN (cns.getD p 0))[k]? with
  | none => exact Int.le_refl _
  | some v => exact (h v (List.mem_of_getElem? e)).1
theorem Rr_lt (cns : List Int) : ∀ p < 9, ∀ k < 3, Rr cns p k < 3 := by
  intro p _ k hk
  have := Rr_cast cns p k
  obtain ⟨hl, h, _⟩ := exN_facts (cns.getD p 0)
  have h3 : (exN (cns.getD p 0)).getD k 0 < 3 := by
    rw [List.getD_eq_getElem?_getD]
    cases e : (exN (cns.getD p 0))[k]? with
    | none => decide
    | some v => exact (h v (List.mem_of_getElem? e)).2
  omega
theorem Rr_inj (cns : List Int) : ∀ p < 9, ∀ a b, a < 3 → b < 3 → Rr cns p a = Rr cns p b → a = b := by
  intro p _ a b ha hb h
  obtain ⟨_, _, hi⟩ := exN_facts (cns.getD p 0)
  exact hi a b ha hb (by rw [← Rr_cast, ← Rr_cast, h])
theorem past_get {past : List Int} (hb : ∀ x ∈ past, 0 ≤ x ∧ x < 3) (k : Nat) : 0 ≤ past.getD k 0 ∧ past.getD k 0 < 3 := by
  rw [List.getD_eq_getElem?_getD]
  cases e : past[k]? with
  | none => decide
  | some v => exact hb v (List.mem_of_getElem? e)
theorem cnt_congr {pl pl' : Nat → Nat} {p : Nat} : ∀ t, (∀ i < t, pl i = pl' i) → Best.cnt pl t p = Best.cnt pl' t p
  | 0, _ => rfl
  | t + 1, h => by
    show Best.cnt pl t p + _ = Best.cnt pl' t p + _
    rw [cnt_congr t (fun i hi => h i (Nat.lt_succ_of_lt hi)), h t (Nat.lt_succ_self t)]
theorem plP_old {past : List Int} {d : Int} {i t : Nat} (hl : past.length = i + 3) (ht : t ≤ i) : plP (past ++ [d]) t = plP past t := by
  unfold plP
  rw [getD_old (by omega), getD_old (by omega)]
theorem Past.next {cns past : List Int} {i : Nat} (P : Past cns past i) {d : Int} (hd : d = (exN (cns.getD (plP past i) 0)).getD (Best.cnt (plP past) i (plP past i)) 0) (hc : Best.cnt (plP past) i (plP past i) < 3) : Past cns (past ++ [d]) (i + 1) := by
  have hb0 := past_get P.b
  have hpl : plP past i < 9 := dg_lt9 (hb0 (i + 2)) (hb0 (i + 1))
  have hdb : 0 ≤ d ∧ d < 3 := by
    rw [hd, ← Rr_cast]
    have := Rr_lt cns (plP past i) hpl _ hc
    omega
  have hB : ∀ x ∈ past ++ [d], 0 ≤ x ∧ x < 3 := fun x hx => by
    rcases List.mem_append.mp hx with h | h
    · exact P.b x h
    · rw [List.mem_singleton.mp h]; exact hdb
  have hb1 := past_get hB
  have eP : ∀ t ≤ i, plP (past ++ [d]) t = plP past t := fun t ht => plP_old P.len ht
  have eC : ∀ t ≤ i, ∀ p, Best.cnt (plP (past ++ [d])) t p = Best.cnt (plP past) t p := fun t ht p => cnt_congr t (fun j hj => eP j (by omega))
  have eD : ∀ t < i, dgP (past ++ [d]) t = dgP past t := fun t ht => by
    unfold dgP; rw [getD_old (by rw [P.len]; omega)]
  have dl : (past ++ [d]).getD (i + 3) 0 = d := by rw [← P.len]; exact getD_new
  refine ⟨by rw [List.length_append, P.len]; rfl, fun j hj => by rw [getD_old (by rw [P.len]; omega)]; exact P.z j hj, hB, ?_⟩
  refine ⟨by rw [eP 0 (by omega)]; exact P.W.p0, fun t ht => ?_, fun t ht => ?_, fun t ht => ?_, fun t ht => ?_, fun t ht => ?_, P.W.inj⟩
  · exact dg_step (hb1 (t + 3)) (hb1 (t + 2)) (hb1 (t + 1))
  · exact dg_lt9 (hb1 (t + 2)) (hb1 (t + 1))
  · exact (Int.toNat_lt (hb1 (t + 3)).1).mpr (hb1 (t + 3)).2
  · by_cases e : t = i
    · subst e
      rw [eP t (Nat.le_refl _), eC t (Nat.le_refl _)]
      unfold dgP
      rw [dl, hd]; rfl
    · rw [eP t (by omega), eC t (by omega), eD t (by omega)]
      exact P.W.ex t (by omega)
  · by_cases e : t = i
    · subst e
      rw [eP t (Nat.le_refl _), eC t (Nat.le_refl _)]
      exact hc
    · rw [eP t (by omega), eC t (by omega)]
      exact P.W.c3 t (by omega)
end Mine
end
theorem Mine.fresh57 : True := by
  w_top off
  trivial
section
local macro_rules | `(tactic| omega) => `(tactic| omega (config := {}))
open PySem PySem.W PyProof.Rows
set_option maxRecDepth 100000
set_option maxHeartbeats 8000000

namespace Mine

theorem count_cnt (pl : Nat → Nat) (p : Nat) : ∀ i, ((List.range i).map fun t => ((pl t : Nat) : Int)).count ((p : Nat) : Int) = Best.cnt pl i p
  | 0 => rfl
  | i + 1 => by
    rw [List.range_succ, List.map_append, List.count_append, count_cnt pl p i]
    show _ = Best.cnt pl i p + if pl i = p then 1 else 0
    congr 1
    by_cases e : pl i = p
    · subst e; rw [if_pos rfl]; simp
    · rw [if_neg e]
      simp only [List.map_cons, List.map_nil]
      rw [List.count_eq_zero]
      intro h
      have := List.mem_singleton.mp h
      omega
theorem fd_cells {cns : List Int} {x : Int} (h0 : 0 ≤ x) (h3 : x < 3) (b : Bool) (born : Int) : (fdOf x b born (numsOf cns)).cells = signC (num1 cns) (num2 cns) x.toNat := by
  have nb := num_bounds cns
  have hx : x = 0 ∨ x = 1 ∨ x = 2 := by omega
  rcases hx with rfl | rfl | rfl
  · rfl
  · show [Cell.I 100, Cell.I (((num1 cns).toNat : Nat) : Int)] = [Cell.I 100, Cell.I (num1 cns)]
    rw [Int.toNat_of_nonneg nb.1]
  · show [Cell.I 100, Cell.I (((num2 cns).toNat : Nat) : Int)] = [Cell.I 100, Cell.I (num2 cns)]
    rw [Int.toNat_of_nonneg (by omega)]
theorem lists_ne {h₀ h : Heap} {L l1 l2 : Addr} {a b : Array Value} {n k : Nat} {news : List (Addr × Obj)} (N : News h₀ L h news) (m1 : (l1, listOf a n) ∈ news) (m2 : (l2, listOf b k) ∈ news) {v : Value} (hb : v ∈ b) (ha : v ∉ a) : l1 ≠ l2 := by
  intro e
  subst e
  have e1 := (N _ m1).1
  have e2 := (N _ m2).1
  have e3 : listOf a n = listOf b k := Option.some.inj (e1.symm.trans e2)
  have e4 : (Data.seq a n) = Data.seq b k := congrArg Obj.data e3
  have e5 : a = b := by injection e4
  exact ha (e5 ▸ hb)
theorem sign_txt {nums : List Int} (hnb : ∀ x ∈ nums, 0 ≤ x ∧ x < 100) {d : Int} (h0 : d ≠ 0) (born : Int) : signS born ++ intS (nums.getD d.toNat 0) = (fdOf d false born nums).txt := by
  unfold fdOf
  rw [if_neg h0]
  have hn : 0 ≤ nums.getD d.toNat 0 := by
    rw [List.getD_eq_getElem?_getD]
    cases h : nums[d.toNat]? with
    | none => exact Int.le_refl _
    | some v => exact (hnb v (List.mem_of_getElem? h)).1
  have eN : intS (nums.getD d.toNat 0) = nS (numF nums d) := by
    unfold numF intS
    show _ = Str.ofString (toString (((nums.getD d.toNat 0).toNat : Nat) : Int))
    rw [Int.toNat_of_nonneg hn]
  rw [eN]
  have hm : born % 3 = 0 ∨ born % 3 = 1 ∨ born % 3 = 2 := by omega
  unfold signS
  rcases hm with e | e | e <;> rw [e]
  · exact nil_app _
  · rfl
  · rfl
theorem IntsAre.snoc {vs : List Value} {ns : List Int} (h : IntsAre vs ns) (k : Int) (t : Tok) : IntsAre (vs ++ [.int k t]) (ns ++ [k]) := IntsAre.append h (.cons k t .nil)
set_option genSizeOf false
set_option genInjectivity false
/-- The moving objects. -/
structure Dt where
  oT : Obj
  oW : Obj
  tw : Tok
  wn : Nat
  pn : Nat
  pan : Nat
  plits : List Value
  pits : List Value
  la : Addr
  ln : Nat
  ts : Nat → Tok
  tl : Nat → Addr
  tv : Nat → Array Value
  tn : Nat → Nat
/-- The state between the turns. -/
structure LS1 (h₀ : Heap) (L : Addr) (cns : List Int) (k : Pk) (R : List (Addr × Obj)) (vT : Option Value) (i : Nat) (past : List Int) (m : Str → Option Value) (h : Heap) (d : Dt) : Prop where
  P : Past cns past i
  F : Fr h₀ L h m
  m1 : m (Str.ofString "exits") = some (.ref k.ea)
  m2 : m (Str.ofString "walk") = some (.ref k.wa)
  m3 : m (Str.ofString "places") = some (.ref k.pla)
  Fx : Fix L cns k R
  m4 : m (Str.ofString "lines") = some (.ref d.la)
  N : News h₀ L h ((L + 1 + 1 + 1 + 1 + 1, d.oT) :: (L + 1 + 1 + 1, d.oW) :: (k.wa, listOf (refsOf d.tl i).toArray d.wn) :: (k.pla, listOf d.plits.toArray d.pn) :: (k.pa, listOf d.pits.toArray d.pan) :: R)
  dT : d.oT.data = Data.cell vT
  dW : d.oW.data = Data.cell (some (.str (winOf past ((i : Int) - 1) (numsOf cns)) d.tw))
  hpl : IntsAre d.plits ((List.range i).map fun t => ((plP past t : Nat) : Int))
  hpi : IntsAre d.pits past
  hml : (d.la, listOf (strsOf (linesOf past i) d.ts 9).toArray d.ln) ∈ R
  hmt : ∀ t < i, (d.tl t, listOf (d.tv t) (d.tn t)) ∈ R
  hct : ∀ t < i, Cells (d.tv t).toList (toldC (num1 cns) (num2 cns) (cdP past t))
def LS (h₀ : Heap) (L : Addr) (cns : List Int) (k : Pk) (R : List (Addr × Obj)) (vT : Option Value) (i : Nat) (past : List Int) (m : Str → Option Value) (h : Heap) : Prop := ∃ d, LS1 h₀ L cns k R vT i past m h d
theorem LS.intro {h₀ : Heap} {L : Addr} {cns : List Int} {k : Pk} {R : List (Addr × Obj)} {vT : Option Value} {i : Nat} {past : List Int} {m : Str → Option Value} {h : Heap} (oT oW : Obj) (tw : Tok) (wn pn pan : Nat) (plits pits : List Value) (la : Addr) (ln : Nat) (ts : Nat → Tok) (tl : Nat → Addr) (tv : Nat → Array Value) (tn : Nat → Nat)
    (P : Past cns past i) (F : Fr h₀ L h m) (m1 : m (Str.ofString "exits") = some (.ref k.ea)) (m2 : m (Str.ofString "walk") = some (.ref k.wa)) (m3 : m (Str.ofString "places") = some (.ref k.pla)) (Fx : Fix L cns k R) (m4 : m (Str.ofString "lines") = some (.ref la))
    (N : News h₀ L h ((L + 1 + 1 + 1 + 1 + 1, oT) :: (L + 1 + 1 + 1, oW) :: (k.wa, listOf (refsOf tl i).toArray wn) :: (k.pla, listOf plits.toArray pn) :: (k.pa, listOf pits.toArray pan) :: R))
    (dT : oT.data = Data.cell vT) (dW : oW.data = Data.cell (some (.str (winOf past ((i : Int) - 1) (numsOf cns)) tw))) (hpl : IntsAre plits ((List.range i).map fun t => ((plP past t : Nat) : Int))) (hpi : IntsAre pits past)
    (hml : (la, listOf (strsOf (linesOf past i) ts 9).toArray ln) ∈ R) (hmt : ∀ t < i, (tl t, listOf (tv t) (tn t)) ∈ R) (hct : ∀ t < i, Cells (tv t).toList (toldC (num1 cns) (num2 cns) (cdP past t))) : LS h₀ L cns k R vT i past m h :=
  ⟨⟨oT, oW, tw, wn, pn, pan, plits, pits, la, ln, ts, tl, tv, tn⟩, P, F, m1, m2, m3, Fx, m4, N, dT, dW, hpl, hpi, hml, hmt, hct⟩
/-- The state behind the loop. -/
structure FS (h₀ : Heap) (L : Addr) (cns : List Int) (k : Pk) (i : Nat) (past : List Int) (m : Str → Option Value) (h : Heap) (tp : Tok) (R : List (Addr × Obj)) (oW : Obj) (tw : Tok) (wn : Nat) (tl : Nat → Addr) (tv : Nat → Array Value) (tn : Nat → Nat) : Prop where
  P : Past cns past i
  h3 : Best.cnt (plP past) i (plP past i) = 3
  F : Fr h₀ L h m
  me : m (Str.ofString "exits") = some (.ref k.ea)
  mw : m (Str.ofString "walk") = some (.ref k.wa)
  mp : m (Str.ofString "place") = some (.int ((plP past i : Nat) : Int) tp)
  Fx : Fix L cns k R
  N : News h₀ L h ((L + 1 + 1 + 1, oW) :: (k.wa, listOf (refsOf tl (i + 1)).toArray wn) :: R)
  dW : oW.data = Data.cell (some (.str (winOf past ((i : Int) - 1) (numsOf cns)) tw))
  hml : ∀ t < i + 1, (tl t, listOf (tv t) (tn t)) ∈ R
  hmc : ∀ t < i + 1, Cells (tv t).toList (toldC (num1 cns) (num2 cns) (cdP past t))
theorem Fix.add {L : Addr} {cns : List Int} {k : Pk} {R : List (Addr × Obj)} (X : Fix L cns k R) (x : Addr × Obj)
   (hx : x.1 ≠ L + 1 + 1 + 1 + 1 + 1 ∧ x.1 ≠ L + 1 + 1 + 1 ∧ x.1 ≠ k.wa ∧ x.1 ≠ k.pla ∧ x.1 ≠ k.pa) : Fix L cns k (x :: R) :=
  { X with mN := .tail _ X.mN, mn := .tail _ X.mn, mS := .tail _ X.mS, msa := .tail _ X.msa, msg := fun i hi => .tail _ (X.msg i hi), mP := .tail _ X.mP, me := .tail _ X.me, mes := fun i hi => .tail _ (X.mes i hi),
           ap := fun q hq => (List.mem_cons.mp hq).elim (fun e => e ▸ hx) (X.ap q) }
theorem turn_all (w : World) (mean : ExcName → Option Value) (mg mb : Str → Option Value) (fa : Addr) (cdv : Value) (h₀ : Heap) (s : Shared) (base : Heap) (L : Addr) (cns : List Int) (k : Pk)
   (E : Value → Shared → Prop) (Q : Flow → Shared → Prop) (K0 : Below callerA base [] h₀) (X : (Mine.hd.heap_39 w.params).In h₀) (T : Top Mine.hd.view_39 LO mean mg mb h₀)
   (i : Nat) (hi : i ≤ 27) (past : List Int) (m : Str → Option Value) (tt : Tok) (R : List (Addr × Obj)) (oT oW : Obj) (tw : Tok) (wn pn pan : Nat) (plits pits : List Value) (la : Addr) (ln : Nat) (ts : Nat → Tok) (tl : Nat → Addr) (tv : Nat → Array Value) (tn : Nat → Nat)
   (P : Past cns past i) (F : Fr h₀ L s.heap m) (m1 : m (Str.ofString "exits") = some (.ref k.ea)) (m2 : m (Str.ofString "walk") = some (.ref k.wa)) (m3 : m (Str.ofString "places") = some (.ref k.pla)) (Fx : Fix L cns k R) (m4 : m (Str.ofString "lines") = some (.ref la))
   (N : News h₀ L s.heap ((L + 1 + 1 + 1 + 1 + 1, oT) :: (L + 1 + 1 + 1, oW) :: (k.wa, listOf (refsOf tl i).toArray wn) :: (k.pla, listOf plits.toArray pn) :: (k.pa, listOf pits.toArray pan) :: R))
   (dT : oT.data = Data.cell (some (.int ((i : Nat) : Int) tt))) (dW : oW.data = Data.cell (some (.str (winOf past ((i : Int) - 1) (numsOf cns)) tw))) (hpl : IntsAre plits ((List.range i).map fun t => ((plP past t : Nat) : Int))) (hpi : IntsAre pits past)
   (hml : (la, listOf (strsOf (linesOf past i) ts 9).toArray ln) ∈ R) (hmt : ∀ t < i, (tl t, listOf (tv t) (tn t)) ∈ R) (hct : ∀ t < i, Cells (tv t).toList (toldC (num1 cns) (num2 cns) (cdP past t)))
   (hnext : ∀ h' tk' m' past' x y, (∀ q ∈ R, q.1 < x.1 ∧ q.1 < y.1) → LS h₀ L cns k (x :: y :: R) (some (.int ((i : Nat) : Int) tt)) (i + 1) past' m' h' → Q .next { s with heap := h', toks := tk' })
   (hbrk : ∀ h' tk' m' tp R oW tw wn tl tv tn, FS h₀ L cns k i past m' h' tp R oW tw wn tl tv tn → Q .brk { s with heap := h', toks := tk' }) :
   wpH (model PR w) (lawA L fa cdv) (execs turnBody (lawEnv L fa cdv)) Q E s := by
  have nb := nums_b cns
  have nb2 := num_bounds cns
  have hb0 := past_get P.b
  have g0 := hb0 i
  have g1 := hb0 (i + 1)
  have g2 := hb0 (i + 2)
  have lo := Fx.lo
  have hplt : plP past i < 9 := P.W.lt i (Nat.le_refl _)
  have eW : winOf past ((i : Int) - 1) (numsOf cns) = win3 (fieldF past ((i : Int) - 1) ((i : Int) - 1) (numsOf cns)) (fieldF past ((i : Int) - 1 - 1) ((i : Int) - 1) (numsOf cns)) (fieldF past ((i : Int) - 1 - 2) ((i : Int) - 1) (numsOf cns)) := winOf_fd nb _
  have ok1 : (fieldF past ((i : Int) - 1) ((i : Int) - 1) (numsOf cns)).ok := fieldF_ok (past := past) nb _ _ _
  have ok2 : (fieldF past ((i : Int) - 1 - 1) ((i : Int) - 1) (numsOf cns)).ok := fieldF_ok (past := past) nb _ _ _
  have ok3 : (fieldF past ((i : Int) - 1 - 2) ((i : Int) - 1) (numsOf cns)).ok := fieldF_ok (past := past) nb _ _ _
  have eC : (fieldF past ((i : Int) - 1) ((i : Int) - 1) (numsOf cns)).cells ++ (fieldF past ((i : Int) - 1 - 1) ((i : Int) - 1) (numsOf cns)).cells ++ (fieldF past ((i : Int) - 1 - 2) ((i : Int) - 1) (numsOf cns)).cells = signC (num1 cns) (num2 cns) (past.getD (i + 2) 0).toNat ++ signC (num1 cns) (num2 cns) (past.getD (i + 1) 0).toNat ++ signC (num1 cns) (num2 cns) (past.getD i 0).toNat := by
    unfold fieldF
    rw [show ((i : Int) - 1 + 3).toNat = i + 2 by omega, show ((i : Int) - 1 - 1 + 3).toNat = i + 1 by omega, show ((i : Int) - 1 - 2 + 3).toNat = i by omega]
    rw [fd_cells g2.1 g2.2, fd_cells g1.1 g1.2, fd_cells g0.1 g0.2]
  rw [eW] at dW
  -- statement 0
  refine turn0 w mean mg mb fa cdv h₀ s m ((L + 1 + 1 + 1 + 1 + 1, oT) :: (k.wa, listOf (refsOf tl i).toArray wn) :: (k.pla, listOf plits.toArray pn) :: (k.pa, listOf pits.toArray pan) :: R) L oW _ tw _ E Q F X T
    (news_drop N (by kcf_all)) dW (told_win w _ ok1 ok2 ok3 tw) (fun h1 tk1 ta its n F1 N1 lt1 lt1' hc1 => ?_)
  rw [eC] at hc1
  have ltR : ∀ q ∈ R, q.1 < ta := fun q hq => lt1 q (.tail _ (.tail _ (.tail _ (.tail _ hq))))
  have lwa : k.wa < ta := lt1 (k.wa, _) (.tail _ (.head _))
  have lpla : k.pla < ta := lt1 (k.pla, _) (.tail _ (.tail _ (.head _)))
  have lpa : k.pa < ta := lt1 (k.pa, _) (.tail _ (.tail _ (.tail _ (.head _))))
  have l5 : L + 1 + 1 + 1 + 1 + 1 < ta := lt1 (_, oT) (.head _)
  -- statements 1 to 3
  refine wpH.up (seqA 1 3 ?_)
  have hps1 : ∀ q ∈ [(Str.ofString "walk", Value.ref k.wa), (Str.ofString "places", .ref k.pla)], m q.1 = some q.2 := by
    intro q hq
    simp only [List.mem_cons, List.not_mem_nil, or_false] at hq
    rcases hq with rfl | rfl <;> assumption
  have F1' : Fr h₀ L h1 (over [(Str.ofString "told", Value.ref ta)] (over [(Str.ofString "walk", Value.ref k.wa), (Str.ofString "places", .ref k.pla)] m)) := by
    rw [over_self hps1]; exact F1
  have hlpl : plits.length = i := by rw [hpl.length, List.length_map, List.length_range]
  refine turn1 w mean mg mb fa cdv h₀ _ m ((L + 1 + 1 + 1 + 1 + 1, oT) :: (L + 1 + 1 + 1, oW) :: (k.pa, listOf pits.toArray pan) :: R) L ta k.wa k.pla k.sa (k.sg 0) (k.sg 1) (k.sg 2) its (refsOf tl i).toArray plits.toArray (k.sv 0) (k.sv 1) (k.sv 2) n wn pn k.oS E _ F1' X T ?N1 Fx.dS ?hw ?hta ?htp Fx.d1 (num1 cns) (num2 cns) (past.getD (i + 2) 0).toNat (past.getD (i + 1) 0).toNat (past.getD i 0).toNat hc1 (Fx.cel 0 (by omega)) (Fx.cel 1 (by omega)) (Fx.cel 2 (by omega)) (by omega) (by omega) (by omega) Fx.sne.1 Fx.sne.2.1 Fx.sne.2.2 (by simp [refsOf]; omega) (by rw [List.size_toArray, hlpl]; omega) (fun h2 tk2 t1 t2 F2 N2 => ?_)
  case N1 =>
    intro q hq
    have hR : ∀ x ∈ R, News h₀ L h1 [x] := fun x hx y hy => by
      rw [List.mem_singleton.mp hy]
      exact N1 x (.tail _ (.tail _ (.tail _ (.tail _ (.tail _ (.tail _ hx))))))
    simp only [List.mem_cons] at hq
    rcases hq with rfl | rfl | rfl | rfl | rfl | rfl | rfl | rfl | rfl | rfl | rfl | hq
    · exact N1 _ (.head _)
    · exact N1 _ (.tail _ (.tail _ (.tail _ (.head _))))
    · exact N1 _ (.tail _ (.tail _ (.tail _ (.tail _ (.head _)))))
    · exact hR _ Fx.mS _ (.head _)
    · exact hR _ Fx.msa _ (.head _)
    · exact hR _ (Fx.msg 0 (by omega)) _ (.head _)
    · exact hR _ (Fx.msg 1 (by omega)) _ (.head _)
    · exact hR _ (Fx.msg 2 (by omega)) _ (.head _)
    · exact N1 _ (.tail _ (.tail _ (.head _)))
    · exact N1 _ (.tail _ (.head _))
    · exact N1 _ (.tail _ (.tail _ (.tail _ (.tail _ (.tail _ (.head _))))))
    · exact hR _ hq _ (.head _)
  case hw =>
    intro q hq
    have hR : ∀ x ∈ R, x.1 ≠ k.wa ∧ x.1 ≠ k.pla := fun x hx => ⟨(Fx.ap x hx).2.2.1, (Fx.ap x hx).2.2.2.1⟩
    simp only [List.mem_cons] at hq
    rcases hq with rfl | rfl | rfl | rfl | rfl | rfl | rfl | rfl | hq
    · exact hR _ Fx.mS
    · exact hR _ Fx.msa
    · exact hR _ (Fx.msg 0 (by omega))
    · exact hR _ (Fx.msg 1 (by omega))
    · exact hR _ (Fx.msg 2 (by omega))
    · exact ⟨Nat.ne_of_lt lo.1, Nat.ne_of_lt lo.2.1⟩
    · exact ⟨Nat.ne_of_lt (Nat.lt_of_succ_lt (Nat.lt_of_succ_lt lo.1)), Nat.ne_of_lt (Nat.lt_of_succ_lt (Nat.lt_of_succ_lt lo.2.1))⟩
    · exact ⟨Ne.symm Fx.d2, Ne.symm Fx.d3⟩
    · exact hR _ hq
  case hta => exact Nat.ne_of_gt lwa
  case htp => exact Nat.ne_of_gt lpla
  dsimp only
  -- statements 4 to 6
  have ePl : 3 * (((past.getD (i + 2) 0).toNat : Nat) : Int) + (((past.getD (i + 1) 0).toNat : Nat) : Int) = ((plP past i : Nat) : Int) := by
    unfold plP; rw [dg_sum g2 g1]; rfl
  rw [ePl] at F2 N2
  rw [List.push_toArray, List.push_toArray] at N2
  have eTl : refsOf tl i ++ [.ref ta] = refsOf (fun j => if j = i then ta else tl j) (i + 1) := refsOf_snoc tl ta i
  rw [eTl] at N2
  have hpl' := IntsAre.snoc hpl ((plP past i : Nat) : Int) t2
  have hcount : (((List.range i).map fun t => ((plP past t : Nat) : Int)) ++ [((plP past i : Nat) : Int)]).count ((plP past i : Nat) : Int) = Best.cnt (plP past) i (plP past i) + 1 := by
    rw [List.count_append, count_cnt]; simp
  have tfix : Fix L cns k ((ta, listOf its n) :: R) := Fx.add (ta, listOf its n) ⟨Nat.ne_of_gt l5, Nat.ne_of_gt (Nat.lt_of_succ_lt (Nat.lt_of_succ_lt l5)), Nat.ne_of_gt lwa, Nat.ne_of_gt lpla, Nat.ne_of_gt lpa⟩
  have hmt' : ∀ t < i + 1, ((fun j => if j = i then ta else tl j) t, listOf ((fun j => if j = i then its else tv j) t) ((fun j => if j = i then n else tn j) t)) ∈ (ta, listOf its n) :: R := fun t ht => by
    by_cases e : t = i
    · subst e; simp
    · simp only [if_neg e]; exact .tail _ (hmt t (by omega))
  have eCd : toldC (num1 cns) (num2 cns) (cdP past i) = signC (num1 cns) (num2 cns) (past.getD (i + 2) 0).toNat ++ signC (num1 cns) (num2 cns) (past.getD (i + 1) 0).toNat ++ signC (num1 cns) (num2 cns) (past.getD i 0).toNat := by
    unfold toldC cdP
    have D := dg_all g2 g1 g0
    rw [D.2.2.1, D.2.2.2.1, D.2.2.2.2]
  have hct' : ∀ t < i + 1, Cells ((fun j => if j = i then its else tv j) t).toList (toldC (num1 cns) (num2 cns) (cdP past t)) := fun t ht => by
    by_cases e : t = i
    · subst e; simp only [if_true]; rw [eCd]; exact hc1
    · simp only [if_neg e]; exact hct t (by omega)
  have N3 : News h₀ L h2 ((k.pla, listOf (plits ++ [Value.int ((plP past i : Nat) : Int) t2]).toArray (pn + 1)) :: (k.wa, listOf (refsOf (fun j => if j = i then ta else tl j) (i + 1)).toArray (wn + 1)) :: (L + 1 + 1 + 1 + 1 + 1, oT) :: (L + 1 + 1 + 1, oW) :: (k.pa, listOf pits.toArray pan) :: (ta, listOf its n) :: R) := by
    intro q hq
    simp only [List.mem_cons] at hq
    rcases hq with rfl | rfl | rfl | rfl | rfl | rfl | hq
    · exact N2 _ (.head _)
    · exact N2 _ (.tail _ (.head _))
    · exact N2 _ (.tail _ (.tail _ (.tail _ (.tail _ (.tail _ (.tail _ (.tail _ (.tail _ (.head _)))))))))
    · exact N2 _ (.tail _ (.tail _ (.tail _ (.tail _ (.tail _ (.tail _ (.tail _ (.tail _ (.tail _ (.head _))))))))))
    · exact N2 _ (.tail _ (.tail _ (.tail _ (.tail _ (.tail _ (.tail _ (.tail _ (.tail _ (.tail _ (.tail _ (.head _)))))))))))
    · exact N2 _ (.tail _ (.tail _ (.head _)))
    · exact N2 _ (.tail _ (.tail _ (.tail _ (.tail _ (.tail _ (.tail _ (.tail _ (.tail _ (.tail _ (.tail _ (.tail _ hq)))))))))))
  clear N2 N1 N F1 F1' F
  refine seqA 4 3 (turn2 w mean mg mb fa cdv h₀ _ base _ _ L la k.pla _ _ ln (pn + 1) (Best.cnt (plP past) i) ts (plP past i) t1 E _ K0 F2 X T (by simp) (by rw [if_neg (by decide), if_neg (by decide), if_neg (by decide), if_neg (by decide)]; exact m4) (by rw [if_neg (by decide), if_neg (by decide), if_neg (by decide), if_pos rfl]) N3 (.tail _ (.tail _ (.tail _ (.tail _ (.tail _ (.tail _ hml)))))) (.head _) hpl' hplt (P.W.le3 _ i (Nat.le_refl _)) hcount (fun h3 tk3 t3 hc3 F3 N4 => ?_) (fun h3 tk3 t3 hc3 F3 N4 => ?_))
  rotate_left
  · refine hbrk _ _ _ t1 ((ta, listOf its n) :: R) oW tw (wn + 1) (fun j => if j = i then ta else tl j) (fun j => if j = i then its else tv j) (fun j => if j = i then n else tn j) ⟨P, hc3, F3, ?_, ?_, ?_, tfix, ?_, by rw [eW]; exact dW, hmt', hct'⟩
    · rw [if_neg (by decide), if_neg (by decide), if_neg (by decide), if_neg (by decide), if_neg (by decide)]; exact m1
    · rw [if_neg (by decide), if_neg (by decide), if_neg (by decide), if_pos rfl]
    · rw [if_neg (by decide), if_pos rfl]
    · exact fun q hq => N4 q (by
        rcases List.mem_cons.mp hq with rfl | hq
        · exact .tail _ (.tail _ (.tail _ (.head _)))
        · rcases List.mem_cons.mp hq with rfl | hq
          · exact .tail _ (.head _)
          · exact .tail _ (.tail _ (.tail _ (.tail _ (.tail _ hq)))))
  dsimp only
  -- statements 7 to 10
  have N5 : News h₀ L h3 ((k.pa, listOf pits.toArray pan) :: (k.pla, listOf (plits ++ [Value.int ((plP past i : Nat) : Int) t2]).toArray (pn + 1)) :: (k.wa, listOf (refsOf (fun j => if j = i then ta else tl j) (i + 1)).toArray (wn + 1)) :: (L + 1 + 1 + 1 + 1 + 1, oT) :: (L + 1 + 1 + 1, oW) :: (ta, listOf its n) :: R) := fun q hq => N4 q (by
    simp only [List.mem_cons] at hq ⊢
    rcases hq with h | h | h | h | h | h | h
    · exact .inr (.inr (.inr (.inr (.inl h))))
    · exact .inl h
    · exact .inr (.inl h)
    · exact .inr (.inr (.inl h))
    · exact .inr (.inr (.inr (.inl h)))
    · exact .inr (.inr (.inr (.inr (.inr (.inl h)))))
    · exact .inr (.inr (.inr (.inr (.inr (.inr h))))))
  have hR5 : ∀ q ∈ R, q ∈ (k.pla, listOf (plits ++ [Value.int ((plP past i : Nat) : Int) t2]).toArray (pn + 1)) :: (k.wa, listOf (refsOf (fun j => if j = i then ta else tl j) (i + 1)).toArray (wn + 1)) :: (L + 1 + 1 + 1 + 1 + 1, oT) :: (L + 1 + 1 + 1, oW) :: (ta, listOf its n) :: R := fun q hq => .tail _ (.tail _ (.tail _ (.tail _ (.tail _ hq))))
  refine seqA 7 4 (turn3 w mean mg mb fa cdv h₀ _ _ _ L la k.ea k.pa pits ln k.en pan (Best.cnt (plP past) i) ts (plP past i) t1 t3 k.oP k.es (fun j => exN (cns.getD j 0)) k.vs k.ns E _ F3 X T (by rw [if_neg (by decide), if_pos rfl]) (by rw [if_neg (by decide), if_neg (by decide), if_neg (by decide), if_neg (by decide), if_neg (by decide)]; exact m4) (by rw [if_neg (by decide), if_neg (by decide), if_neg (by decide), if_neg (by decide), if_neg (by decide)]; exact m1) (by rw [if_pos rfl]) N5 ?ap3 (hR5 _ hml) (hR5 _ Fx.me) (fun j hj => hR5 _ (Fx.mes j hj)) (fun j hj => ⟨Fx.hrow j hj, (exN_facts _).1, (exN_facts _).2.1⟩) (hR5 _ Fx.mP) Fx.dP hplt hc3 (by rw [hpi.length, P.len]; omega) (fun h4 tk4 t4 t5 la' ln' ts' F4 N6 lt6 => ?_))
  case ap3 =>
    intro q hq
    simp only [List.mem_cons] at hq
    rcases hq with rfl | rfl | rfl | rfl | rfl | hq
    · exact Fx.d3
    · exact Fx.d2
    · exact Nat.ne_of_lt lo.2.2
    · exact Nat.ne_of_lt (Nat.lt_of_succ_lt (Nat.lt_of_succ_lt lo.2.2))
    · exact Nat.ne_of_gt lpa
    · exact (Fx.ap q hq).2.2.2.2
  dsimp only
  generalize hd : (exN (cns.getD (plP past i) 0)).getD (Best.cnt (plP past) i (plP past i)) 0 = d at F4 N6
  have P' : Past cns (past ++ [d]) (i + 1) := P.next hd.symm hc3
  have hd3 : 0 ≤ d ∧ d < 3 := by
    rw [← hd, ← Rr_cast]
    have := Rr_lt cns (plP past i) hplt _ hc3
    omega
  have eLines : (fun k => lineAt k (if k = plP past i then Best.cnt (plP past) i k + 1 else Best.cnt (plP past) i k)) = linesOf (past ++ [d]) (i + 1) := by
    funext k
    unfold linesOf
    congr 1
    show _ = Best.cnt (plP (past ++ [d])) i k + if plP (past ++ [d]) i = k then 1 else 0
    rw [cnt_congr (pl := plP (past ++ [d])) (pl' := plP past) i (fun j hj => plP_old P.len (by omega)), plP_old P.len (Nat.le_refl _)]
    by_cases e : k = plP past i
    · rw [if_pos e, if_pos e.symm]
    · rw [if_neg e, if_neg (Ne.symm e)]; rfl
  rw [eLines] at N6
  have l5' : L + 1 + 1 + 1 < ta := Nat.lt_of_succ_lt (Nat.lt_of_succ_lt l5)
  have hR6 : ∀ q ∈ R, q ∈ (k.pa, listOf (pits ++ [Value.int d t5]).toArray (pan + 1)) :: (la', listOf (strsOf (linesOf (past ++ [d]) (i + 1)) ts' 9).toArray ln') :: (k.pla, listOf (plits ++ [Value.int ((plP past i : Nat) : Int) t2]).toArray (pn + 1)) :: (k.wa, listOf (refsOf (fun j => if j = i then ta else tl j) (i + 1)).toArray (wn + 1)) :: (L + 1 + 1 + 1 + 1 + 1, oT) :: (L + 1 + 1 + 1, oW) :: (ta, listOf its n) :: R := fun q hq => .tail _ (.tail _ (.tail _ (.tail _ (.tail _ (.tail _ (.tail _ hq))))))
  -- statement 11
  refine seqA 11 1 (turn4 w mean mg mb fa cdv h₀ _ _ _ L k.na k.nvs (numsOf cns) k.oN oT ((i : Nat) : Int) d t4 tt E _ F4 X T (by rw [if_neg (by decide), if_pos rfl]) (by rw [if_pos rfl]) N6 (hR6 _ Fx.mN) Fx.dN (.tail _ (.tail _ (.tail _ (.tail _ (.head _))))) dT (hR6 _ Fx.mn) Fx.hni rfl nb hd3.1 hd3.2 (by omega) (by omega) (fun h5 tk5 v hv F5 N7 => ?_))
  dsimp only
  have hsx : ∃ sx : Option (Str × Tok), v = ov sx ∧ headS sx = (fdOf d false ((i : Nat) : Int) (numsOf cns)).txt := by
    rcases hv with ⟨e, rfl⟩ | ⟨e, t, rfl⟩
    · refine ⟨none, rfl, ?_⟩
      unfold fdOf
      rw [if_pos e]; rfl
    · exact ⟨some (_, t), rfl, sign_txt nb e _⟩
  obtain ⟨sx, rfl, hhead⟩ := hsx
  have okS : (fdOf d false ((i : Nat) : Int) (numsOf cns)).ok := fieldF_ok (past := past) nb _ _ _
  have hwn := win_next (past := past) (nums := numsOf cns) (d := d) (turn := (i : Int) - 1) nb P'.z (by omega) (by rw [P.len]; omega)
  rw [show (i : Int) - 1 + 1 = (i : Int) by omega] at hwn
  -- statement 12
  refine seqA 12 1 (turn5 w mean mg mb fa cdv h₀ _ base _ ((k.pa, listOf (pits ++ [Value.int d t5]).toArray (pan + 1)) :: (la', listOf (strsOf (linesOf (past ++ [d]) (i + 1)) ts' 9).toArray ln') :: (k.pla, listOf (plits ++ [Value.int ((plP past i : Nat) : Int) t2]).toArray (pn + 1)) :: (k.wa, listOf (refsOf (fun j => if j = i then ta else tl j) (i + 1)).toArray (wn + 1)) :: (L + 1 + 1 + 1 + 1 + 1, oT) :: (ta, listOf its n) :: R) L oW oT ((i : Nat) : Int) tt tw sx _ (fieldF past ((i : Int) - 1) ((i : Int) - 1) (numsOf cns)).txt (fieldF past ((i : Int) - 1 - 1) ((i : Int) - 1) (numsOf cns)).txt (fieldF past ((i : Int) - 1 - 2) ((i : Int) - 1) (numsOf cns)).txt (winOf (past ++ [d]) ((i : Nat) : Int) (numsOf cns)) E _ K0 F5 X T (by rw [if_pos rfl]) ?N8 ?ap5 dW (.tail _ (.tail _ (.tail _ (.tail _ (.head _))))) dT (by omega) (by omega) ?sxl (by have := win3_len ok1 ok2 ok3; omega) ⟨by have := fd_len ok1; omega, by have := fd_len ok2; omega, by have := fd_len ok3; omega⟩ (split_win ok1 ok2 ok3) ?hE ?hO (fun h6 tk6 oW' tw' m' hm' dW' F6 N8 => ?_))
  case N8 =>
    intro q hq
    simp only [List.mem_cons] at hq
    rcases hq with rfl | rfl | rfl | rfl | rfl | rfl | rfl | hq
    · exact N7 _ (.tail _ (.tail _ (.tail _ (.tail _ (.tail _ (.head _))))))
    · exact N7 _ (.head _)
    · exact N7 _ (.tail _ (.head _))
    · exact N7 _ (.tail _ (.tail _ (.head _)))
    · exact N7 _ (.tail _ (.tail _ (.tail _ (.head _))))
    · exact N7 _ (.tail _ (.tail _ (.tail _ (.tail _ (.head _)))))
    · exact N7 _ (.tail _ (.tail _ (.tail _ (.tail _ (.tail _ (.tail _ (.head _)))))))
    · exact N7 _ (hR6 _ hq)
  case ap5 =>
    intro q hq
    simp only [List.mem_cons] at hq
    rcases hq with rfl | rfl | rfl | rfl | rfl | rfl | hq
    · exact Nat.ne_of_gt (Nat.lt_of_succ_lt (Nat.lt_of_succ_lt lo.2.2))
    · exact Nat.ne_of_gt (lt6 _ (.tail _ (.tail _ (.tail _ (.head _)))))
    · exact Nat.ne_of_gt (Nat.lt_of_succ_lt (Nat.lt_of_succ_lt lo.2.1))
    · exact Nat.ne_of_gt (Nat.lt_of_succ_lt (Nat.lt_of_succ_lt lo.1))
    · exact Nat.ne_of_gt (Nat.lt_succ_of_lt (Nat.lt_succ_self _))
    · exact Nat.ne_of_gt l5'
    · exact (Fx.ap q hq).2.1
  case sxl =>
    intro q hq
    have : headS sx = q.1 := by rw [hq]; rfl
    rw [← this, hhead]
    have := fd_len okS
    omega
  case hE =>
    intro nw t
    have := normE w nw okS ok1 ok2 ok3 t
    rw [hwn] at this
    rw [hhead]
    exact this
  case hO =>
    intro nw t u
    have := normO w nw okS ok1 ok2 ok3 t u
    rw [hwn] at this
    rw [hhead]
    exact this
  dsimp only
  have hR8 : ∀ q ∈ R, q ∈ (L + 1 + 1 + 1, oW') :: (k.pa, listOf (pits ++ [Value.int d t5]).toArray (pan + 1)) :: (la', listOf (strsOf (linesOf (past ++ [d]) (i + 1)) ts' 9).toArray ln') :: (k.pla, listOf (plits ++ [Value.int ((plP past i : Nat) : Int) t2]).toArray (pn + 1)) :: (k.wa, listOf (refsOf (fun j => if j = i then ta else tl j) (i + 1)).toArray (wn + 1)) :: (L + 1 + 1 + 1 + 1 + 1, oT) :: (ta, listOf its n) :: R := fun q hq => .tail _ (.tail _ (.tail _ (.tail _ (.tail _ (.tail _ (.tail _ hq))))))
  have hpi' := IntsAre.snoc hpi d t5
  -- statement 13
  refine seqA 13 1 (turn6 w mean mg mb fa cdv h₀ _ base m' _ L oW' oT k.oN k.oP ((i : Nat) : Int) tt tw' k.na k.pa k.nvs (pits ++ [Value.int d t5]) (numsOf cns) (past ++ [d]) (pan + 1) E _ K0 F6 X T N8 (.head _) dW' (.tail _ (.tail _ (.tail _ (.tail _ (.tail _ (.head _)))))) dT (hR8 _ Fx.mN) Fx.dN (hR8 _ Fx.mP) Fx.dP (.tail _ (.head _)) (hR8 _ Fx.mn) hpi' Fx.hni (by rw [P'.len]; push_cast; omega) rfl P'.z P'.b nb ⟨by omega, by omega⟩ (fun b => by rw [fieldS_fd nb]; have := fd_len (fieldF_ok (past := past) (nums := numsOf cns) nb ((past ++ [d]).getD (b + 3).toNat 0) (plainB (past ++ [d]) b ((i : Nat) : Int)) b); exact Nat.le_trans this (by decide)) (fun h7 tk7 F7 N9 => ?_))
  dsimp only
  refine wpAny_execs_nil ?_
  refine hnext _ _ m' (past ++ [d]) (la', listOf (strsOf (linesOf (past ++ [d]) (i + 1)) ts' 9).toArray ln') (ta, listOf its n) (fun q hq => ⟨lt6 q (.tail _ (.tail _ (.tail _ (.tail _ (.tail _ hq))))), ltR q hq⟩) (LS.intro oT oW' tw' (wn + 1) (pn + 1) (pan + 1) (plits ++ [Value.int ((plP past i : Nat) : Int) t2]) (pits ++ [Value.int d t5]) la' ln' ts' (fun j => if j = i then ta else tl j) (fun j => if j = i then its else tv j) (fun j => if j = i then n else tn j) P' F7 ?_ ?_ ?_ (Fix.add tfix _ ?apl) ?_ ?N10 dT ?_ ?_ hpi' (.head _) (fun t ht => .tail _ (hmt' t ht)) ?_)
  case apl => exact ⟨Nat.ne_of_gt (lt6 _ (.tail _ (.tail _ (.head _)))), Nat.ne_of_gt (lt6 _ (.tail _ (.tail _ (.tail _ (.head _))))), Nat.ne_of_gt (lt6 _ (.tail _ (.head _))), Nat.ne_of_gt (lt6 _ (.head _)), lists_ne N6 (.tail _ (.head _)) (.head _) (v := .int d t5) (by simp) (by simp [strsOf])⟩
  case N10 =>
    intro q hq
    simp only [List.mem_cons] at hq
    rcases hq with rfl | rfl | rfl | rfl | rfl | rfl | rfl | hq
    · exact N9 _ (.tail _ (.tail _ (.tail _ (.tail _ (.tail _ (.head _))))))
    · exact N9 _ (.head _)
    · exact N9 _ (.tail _ (.tail _ (.tail _ (.tail _ (.head _)))))
    · exact N9 _ (.tail _ (.tail _ (.tail _ (.head _))))
    · exact N9 _ (.tail _ (.head _))
    · exact N9 _ (.tail _ (.tail _ (.head _)))
    · exact N9 _ (.tail _ (.tail _ (.tail _ (.tail _ (.tail _ (.tail _ (.head _)))))))
    · exact N9 _ (hR8 _ hq)
  · rw [hm' _ (by decide)]
    rw [if_neg (by decide), if_neg (by decide), if_neg (by decide), if_neg (by decide), if_neg (by decide), if_neg (by decide), if_neg (by decide), if_neg (by decide), if_neg (by decide)]; exact m1
  · rw [hm' _ (by decide)]
    rw [if_neg (by decide), if_neg (by decide), if_neg (by decide), if_neg (by decide), if_neg (by decide), if_neg (by decide), if_neg (by decide), if_pos rfl]
  · rw [hm' _ (by decide)]
    rw [if_neg (by decide), if_neg (by decide), if_neg (by decide), if_neg (by decide), if_neg (by decide), if_neg (by decide), if_neg (by decide), if_neg (by decide), if_pos rfl]
  · rw [hm' _ (by decide)]
    rw [if_neg (by decide), if_neg (by decide), if_neg (by decide), if_pos rfl]
  · rw [show (((i + 1 : Nat) : Int) - 1) = (i : Int) by omega]; exact dW'
  · have e : ((List.range (i + 1)).map fun t => ((plP (past ++ [d]) t : Nat) : Int)) = ((List.range i).map fun t => ((plP past t : Nat) : Int)) ++ [((plP past i : Nat) : Int)] := by
      rw [List.range_succ, List.map_append]
      congr 1
      · refine List.map_congr_left fun t ht => ?_
        have := List.mem_range.mp ht
        rw [plP_old P.len (by omega)]
      · simp only [List.map_cons, List.map_nil]
        rw [plP_old P.len (Nat.le_refl _)]
    rw [e]; exact hpl'
  · intro t ht
    have e : cdP (past ++ [d]) t = cdP past t := by
      unfold cdP
      rw [getD_old (by rw [P.len]; omega), getD_old (by rw [P.len]; omega), getD_old (by rw [P.len]; omega)]
    rw [e]
    exact hct' t ht

theorem turn_ls (w : World) (mean : ExcName → Option Value) (mg mb : Str → Option Value) (fa : Addr) (cdv : Value) (h₀ : Heap) (s : Shared) (base : Heap) (L : Addr) (cns : List Int) (k : Pk)
   (E : Value → Shared → Prop) (Q : Flow → Shared → Prop) (K0 : Below callerA base [] h₀) (X : (Mine.hd.heap_39 w.params).In h₀) (T : Top Mine.hd.view_39 LO mean mg mb h₀)
   (i : Nat) (hi : i ≤ 27) (past : List Int) (m : Str → Option Value) (tt : Tok) (R : List (Addr × Obj)) (S : LS h₀ L cns k R (some (.int ((i : Nat) : Int) tt)) i past m s.heap)
   (hnext : ∀ h' tk' m' past' x y, (∀ q ∈ R, q.1 < x.1 ∧ q.1 < y.1) → LS h₀ L cns k (x :: y :: R) (some (.int ((i : Nat) : Int) tt)) (i + 1) past' m' h' → Q .next { s with heap := h', toks := tk' })
   (hbrk : ∀ h' tk' m' tp R oW tw wn tl tv tn, FS h₀ L cns k i past m' h' tp R oW tw wn tl tv tn → Q .brk { s with heap := h', toks := tk' }) :
   wpH (model PR w) (lawA L fa cdv) (execs turnBody (lawEnv L fa cdv)) Q E s := by
  obtain ⟨d, S⟩ := S
  exact turn_all w mean mg mb fa cdv h₀ s base L cns k E Q K0 X T i hi past m tt R d.oT d.oW d.tw d.wn d.pn d.pan d.plits d.pits d.la d.ln d.ts d.tl d.tv d.tn S.P S.F S.m1 S.m2 S.m3 S.Fx S.m4 S.N S.dT S.dW S.hpl S.hpi S.hml S.hmt S.hct hnext hbrk
end Mine
end
theorem Mine.fresh58 : True := by
  w_top off
  trivial
section
open PySem PySem.W PyProof.Rows
set_option maxRecDepth 100000
set_option maxHeartbeats 8000000
namespace Mine

section
variable {w : World} {h₀ : Heap} {L : Addr} {cns : List Int} {k : Pk}
theorem Fix.sub {R R' : List (Addr × Obj)} {D : Data} (X : Fix L cns k R') (hD : ∀ a n, Data.seq a n ≠ D) (hC : ∀ v, Data.cell v ≠ D) (h : ∀ q ∈ R', q.2.data ≠ D → q ∈ R) (h' : ∀ q ∈ R, q ∈ R') : Fix L cns k R :=
  { X with mN := h _ X.mN (by rw [X.dN]; exact hC _), mn := h _ X.mn (hD _ _), mS := h _ X.mS (by rw [X.dS]; exact hC _), msa := h _ X.msa (hD _ _), msg := fun i hi => h _ (X.msg i hi) (hD _ _), mP := h _ X.mP (by rw [X.dP]; exact hC _), me := h _ X.me (hD _ _), mes := fun i hi => h _ (X.mes i hi) (hD _ _),
           ap := fun q hq => X.ap q (h' q hq) }
theorem four_or {α : Type} {a b c d : α} {R : List α} {P : α → Prop} (h1 : P a) (h2 : P b) (h3 : P c) (h4 : P d) (h : ∀ q ∈ R, P q) : ∀ q ∈ a :: b :: c :: d :: R, P q :=
  List.forall_mem_cons.mpr ⟨h1, List.forall_mem_cons.mpr ⟨h2, List.forall_mem_cons.mpr ⟨h3, List.forall_mem_cons.mpr ⟨h4, h⟩⟩⟩⟩
theorem five_or {α : Type} {a b c d e : α} {R : List α} {P : α → Prop} (h1 : P a) (h2 : P b) (h3 : P c) (h4 : P d) (h5 : P e) (h : ∀ q ∈ R, P q) : ∀ q ∈ a :: b :: c :: d :: e :: R, P q :=
  List.forall_mem_cons.mpr ⟨h1, four_or h2 h3 h4 h5 h⟩
theorem five_all {α : Type} {a b c d e : α} {R : List α} {P : α → Prop} (h : ∀ q ∈ a :: b :: c :: d :: e :: R, P q) : P a ∧ P b ∧ P c ∧ P d ∧ P e ∧ ∀ q ∈ R, P q :=
  ⟨h _ (.head _), h _ (.tail _ (.head _)), h _ (.tail _ (.tail _ (.head _))), h _ (.tail _ (.tail _ (.tail _ (.head _)))), h _ (.tail _ (.tail _ (.tail _ (.tail _ (.head _))))), fun q m => h q (.tail _ (.tail _ (.tail _ (.tail _ (.tail _ m)))))⟩
theorem five_sub {α : Type} {a b c d e : α} {R R' : List α} {P : α → Prop} (h : ∀ q ∈ a :: b :: c :: d :: e :: R, P q) (hs : (∀ q ∈ R, P q) → ∀ q ∈ R', P q) : ∀ q ∈ a :: b :: c :: d :: e :: R', P q :=
  have H := five_all h
  five_or H.1 H.2.1 H.2.2.1 H.2.2.2.1 H.2.2.2.2.1 (hs H.2.2.2.2.2)
section
variable {R R' : List (Addr × Obj)} {D : Data} {vT : Option Value} {i : Nat} {past : List Int} {m : Str → Option Value} {h h' : Heap} {it : Addr} {oit : Obj}
theorem LS.pst (S : LS h₀ L cns k R vT i past m h) : Past cns past i := S.elim fun _ S => S.P
theorem LS.fr (S : LS h₀ L cns k R vT i past m h) : Fr h₀ L h m := S.elim fun _ S => S.F
theorem LS.sub (S : LS h₀ L cns k R' vT i past m h) (hD : ∀ a n, Data.seq a n ≠ D) (hC : ∀ v, Data.cell v ≠ D) (hs : ∀ q ∈ R', q.2.data ≠ D → q ∈ R) (hs' : ∀ q ∈ R, q ∈ R') :
    LS h₀ L cns k R vT i past m h :=
  S.elim fun d S => ⟨d, { S with Fx := S.Fx.sub hD hC hs hs', N := five_sub S.N (fun H q hq => H q (hs' q hq)), hml := hs _ S.hml (hD _ _), hmt := fun t ht => hs _ (S.hmt t ht) (hD _ _) }⟩
/-- The ledger's addresses. -/
def Far (L : Addr) (k : Pk) (R : List (Addr × Obj)) (it : Addr) : Prop := it ≠ L ∧ it ≠ L + 1 + 1 + 1 + 1 + 1 ∧ it ≠ L + 1 + 1 + 1 ∧ it ≠ k.wa ∧ it ≠ k.pla ∧ it ≠ k.pa ∧ ∀ q ∈ R, q.1 ≠ it
theorem LS.keep (S : LS h₀ L cns k R vT i past m h) (hi : Far L k R it) (i0 : h₀.get? it = none) (hx : Heap.ExtBut it h h') :
    LS h₀ L cns k R vT i past m h' :=
  S.elim fun d S => ⟨d, { S with F := fr_ext S.F hx i0 (Ne.symm hi.1), N := news_ext S.N hx (five_or (Ne.symm hi.2.1) (Ne.symm hi.2.2.1) (Ne.symm hi.2.2.2.1) (Ne.symm hi.2.2.2.2.1) (Ne.symm hi.2.2.2.2.2.1) hi.2.2.2.2.2.2) }⟩
theorem LS.add (S : LS h₀ L cns k R vT i past m h) (hi : Far L k R it) (i0 : h₀.get? it = none) (e : h.get? it = some oit) :
    LS h₀ L cns k ((it, oit) :: R) vT i past m h :=
  S.elim fun d S => ⟨d, { S with Fx := S.Fx.add _ ⟨hi.2.1, hi.2.2.1, hi.2.2.2.1, hi.2.2.2.2.1, hi.2.2.2.2.2.1⟩, N := five_sub S.N (fun H q hq => (List.mem_cons.mp hq).elim (fun e' => e' ▸ ⟨e, hi.1, i0⟩) (H q)), hml := .tail _ S.hml, hmt := fun t ht => .tail _ (S.hmt t ht) }⟩
theorem LS.at_ (S : LS h₀ L cns k R vT i past m h) : ∀ q ∈ R, h.get? q.1 = some q.2 :=
  S.elim fun _ S => fun q hq => ((five_all S.N).2.2.2.2.2 q hq).1
theorem LS.fresh (S : LS h₀ L cns k R vT i past m h) : Far L k R h.objs.size ∧ h₀.get? h.objs.size = none :=
  S.elim fun _ S => by
    have H := five_all (P := fun q => q.1 ≠ h.objs.size) (fun q hq => Nat.ne_of_lt (Heap.lt_size (S.N q hq).1))
    exact ⟨⟨Nat.ne_of_gt S.F.ns.lt, H.1.symm, H.2.1.symm, H.2.2.1.symm, H.2.2.2.1.symm, H.2.2.2.2.1.symm, H.2.2.2.2.2⟩, next_is_new S.F⟩
theorem LS.frame (S : LS h₀ L cns k R vT i past m h) (hk : ∀ b o, h.get? b = some o → h'.get? b = some o) (F' : Fr h₀ L h' m) :
    LS h₀ L cns k R vT i past m h' :=
  S.elim fun d S => ⟨d, { S with F := F', N := fun q hq => ⟨hk _ _ (S.N q hq).1, (S.N q hq).2⟩ }⟩
/-- The loop's own name takes the turn's number. -/
theorem LS.store {s : Shared} {A : Around} {E : Value → Shared → Prop} {fa : Addr} {cdv v : Value} {px : Pos} {Q : Unit → Shared → Prop} (S : LS h₀ L cns k R vT i past m s.heap)
    (h : ∀ h', LS h₀ L cns k R (some v) i past m h' → Q () { s with heap := h' }) : wpAny (model PR w) A (assign (.Name (Str.ofString "turn") px) (lawEnv L fa cdv) v) Q E s := by
  obtain ⟨d, S⟩ := S
  have lo := S.Fx.lo
  have ap := S.Fx.ap
  refine wpAny_assign_Name (st_cellF S.F S.N rfl (.head (four_or (Nat.ne_of_lt (Nat.lt_succ_of_lt (Nat.lt_succ_self _))) (Nat.ne_of_gt lo.1) (Nat.ne_of_gt lo.2.1) (Nat.ne_of_gt lo.2.2) (fun q hq => (ap q hq).1))) S.dT (fun h' o' F' N' d' => h h' ⟨{ d with oT := o' }, { S with F := F', N := N', dT := d' }⟩))
end
end
end Mine
end
theorem Mine.fresh59 : True := by
  w_top off
  trivial
section
open PySem PySem.W PyProof.Rows
set_option maxRecDepth 100000
set_option maxHeartbeats 8000000
namespace Mine

theorem loop_all (w : World) (mean : ExcName → Option Value) (mg mb : Str → Option Value) (fa : Addr) (cdv : Value) (h₀ : Heap) (s : Shared) (base : Heap) (L : Addr) (cns : List Int) (k : Pk)
   (E : Value → Shared → Prop) (Q : Flow → Shared → Prop) (K0 : Below callerA base [] h₀) (X : (Mine.hd.heap_39 w.params).In h₀) (T : Top Mine.hd.view_39 LO mean mg mb h₀)
   (R0 : List (Addr × Obj)) (vT0 : Option Value) (past0 : List Int) (m : Str → Option Value) (S : LS h₀ L cns k R0 vT0 0 past0 m s.heap)
   (hdone : ∀ h' tk' m' i past tp R oW tw wn tl tv tn, i ≤ 27 → FS h₀ L cns k i past m' h' tp R oW tw wn tl tv tn → Q .next { s with heap := h', toks := tk' }) :
   wpH (model PR w) (lawA L fa cdv) (execs ((lawBody.drop 9).take 1) (lawEnv L fa cdv)) Q E s := by
  have kf : Fill PySem.Challenge.rw_wn0026_01 Mine.hd.heap_39 := by (k_fill; exact trivial)
  clear kf
  have F : Fr h₀ L s.heap m := S.fr
  have N : News h₀ L s.heap [] := fun _ h => nomatch h
  refine wpH.execs_cons (wpH.For ?_)
  k_steps
  rename Fr _ _ _ _ => F2
  rename IsRange _ _ _ _ _ _ _ _ => hR
  rename ∀ b o, _ → _ => hup
  have S2 := S.frame hup F2
  refine wpAny_pyIter_range hR (by decide) ?_
  have S3 := S2.frame (fun b o e => Heap.get?_push_of_some { cls := .type "range_iterator", data := .fields #[rawInt 0, rawInt (PySem.Builtin.Range.rangeSize 0 28 1), rawInt 1] } e) (F2.push _)
  obtain ⟨far, i0⟩ := S2.fresh
  clear hR hup S S2
  rename Heap => h1
  have hit : IsRangeIter (h1.push { cls := .type "range_iterator", data := .fields #[rawInt 0, rawInt (PySem.Builtin.Range.rangeSize 0 28 1), rawInt 1] }) h1.objs.size 0 28 1 := Heap.get?_push_size _ rfl
  generalize h1.push { cls := .type "range_iterator", data := .fields #[rawInt 0, rawInt (PySem.Builtin.Range.rangeSize 0 28 1), rawInt 1] } = H1 at S3 hit ⊢
  generalize h1.objs.size = it at far i0 hit ⊢
  have hit0 : IsRangeIter H1 it ((0 : Nat) : Int) (28 - ((0 : Nat) : Int)) 1 := hit
  dsimp only
  refine codeH.forLoop (fun j s' => ∃ (i : Nat) (past : List Int) (m : Str → Option Value) (vT : Option Value) (R : List (Addr × Obj)), j = 29 - i ∧ IsRangeIter s'.heap it (i : Int) (28 - (i : Int)) 1 ∧ LS h₀ L cns k R vT i past m s'.heap ∧ Far L k R it ∧ ∃ h tk, s' = { s with heap := h, toks := tk })
    (fun n s' hI => ?_) 29 ⟨0, past0, m, vT0, R0, rfl, hit0, S3, far, _, _, rfl⟩
  obtain ⟨i, past, m, vT, R, rfl, hi, S, far, h9, tk9, rfl⟩ := hI
  have i27 : i ≤ 27 := S.pst.W.le27
  refine wpAny_pyNext_range_item hi (by omega) (fun h' hi' hs => ?_)
  have S4 := (S.keep far i0 hs.extBut).add far i0 hi'
  refine S4.store (fun h2 S5 => ?_)
  refine turn_ls w mean mg mb fa cdv h₀ _ base L cns k _ _ K0 X T i i27 past m _ _ S5 (fun h3 tk3 m3 past3 x y hxy S6 => ?_) (fun h3 tk3 m3 tp R5 oW tw wn tl tv tn S6 => ?_)
  · have e6 : IsRangeIter h3 it ((i : Int) + 1) (28 - (i : Int) - 1) 1 := S6.at_ (it, _) (.tail _ (.tail _ (.head _)))
    obtain ⟨f1, f2, f3, f4, f5, f6, f7⟩ := far
    have hx := hxy (it, _) (.head _)
    refine ⟨29 - (i + 1), by omega, i + 1, past3, m3, _, x :: y :: R, rfl, ?_, S6.sub (D := .fields #[rawInt ((i : Int) + 1), rawInt (28 - (i : Int) - 1), rawInt 1]) (fun _ _ e => nomatch e) (fun _ e => nomatch e) (fun q hq hne => ?_) (fun q hq => ?_), ⟨f1, f2, f3, f4, f5, f6, fun q hq => ?_⟩, _, _, rfl⟩
    · show IsRangeIter h3 it ((i + 1 : Nat) : Int) (28 - ((i + 1 : Nat) : Int)) 1
      rw [show ((i + 1 : Nat) : Int) = (i : Int) + 1 by omega, show 28 - ((i : Int) + 1) = 28 - (i : Int) - 1 by omega]
      exact e6
    · simp only [List.mem_cons] at hq ⊢
      rcases hq with h | h | h | h
      · exact .inl h
      · exact .inr (.inl h)
      · rw [h] at hne; exact absurd rfl hne
      · exact .inr (.inr h)
    · simp only [List.mem_cons] at hq ⊢
      rcases hq with h | h | h
      · exact .inl h
      · exact .inr (.inl h)
      · exact .inr (.inr (.inr h))
    · simp only [List.mem_cons] at hq
      rcases hq with rfl | rfl | h
      · exact Nat.ne_of_gt hx.1
      · exact Nat.ne_of_gt hx.2
      · exact f7 q h
  · refine wpH.up (wpAny_execs_nil ?_)
    exact hdone _ _ m3 i past tp R5 oW tw wn tl tv tn i27 S6
end Mine
end
theorem Mine.fresh60 : True := by
  w_top off
  trivial
section
open PySem PySem.W PyProof.Rows
set_option maxRecDepth 100000
set_option maxHeartbeats 8000000
namespace Mine

open PySem.SeqAt PySem.MeetsSeq3
open AutoSeq1 (wpAny_loadPart')
def LtAt (A : Around) (s : Shared) (y x : Value) (b : Bool) : Prop :=
  ∀ (prog : Program) (w : World) (E : Value → Shared → Prop) (Q : Value → Shared → Prop), Q (.bool b) s → wpAny (model prog w) A (richCompare .Lt y x) Q E s
theorem lt_loopAt (l b : Addr) (items items2 : Array Value) (n n2 : Nat) (dd dd2 : Option Addr) (sl sl2 : Array (Option Value)) (d : Nat) (r : Bool) (h1 : d < items.size) (h2 : d < items2.size) (k : Nat) :
    ∀ i : Nat, d - i = k → i ≤ d → Meets (Builtin.«list.__eq__.loop» ⟨[.ref l, .ref b, rawInt i, rawInt 0], []⟩)
      (fun A R s => s.heap.get? l = some { cls := .type "list", dict := dd, data := .seq items n, slots := sl } ∧ s.heap.get? b = some { cls := .type "list", dict := dd2, data := .seq items2 n2, slots := sl2 } ∧
        (∀ j (h1 : j < items.size) (h2 : j < items2.size), j ≤ d → EqAt A.in1 s items[j] items2[j] (decide (j < d))) ∧ LtAt A.in1 s items[d] items2[d] r ∧
        R (.ok (.ret (.bool r))) s) := by
  induction k with
  | zero =>
    intro i hk hid prog w A R s h
    obtain ⟨hp, g, dr, tk, os⟩ := s; obtain ⟨hl, hb, he, hlt, h⟩ := h
    have e : i = d := by omega
    subst e
    wp_walk using wpAny_loadPart' hl, wpAny_loadPart' hb
    have hi1 : items[((i : Nat) : Int).toNat]? = some items[i] := by simp [h1]
    have hi2 : items2[((i : Nat) : Int).toNat]? = some items2[i] := by simp [h2]
    rw [hi1, hi2]
    refine wpAny_bind (he i h1 h2 (Nat.le_refl _) prog w _ _ ?_)
    simp only [Nat.lt_irrefl, decide_false, Bool.false_eq_true, if_false]
    wp_walk using wpAny_loadPart' hl, wpAny_loadPart' hb
    rw [hi1, hi2]
    refine wpAny_bind (hlt prog w _ _ ?_)
    wp_walk
    exact h
  | succ k ih =>
    intro i hk hid prog w A R s h
    obtain ⟨hp, g, dr, tk, os⟩ := s; obtain ⟨hl, hb, he, hlt, h⟩ := h
    wp_walk using wpAny_loadPart' hl, wpAny_loadPart' hb
    have q1 : i < items.size := by omega
    have q2 : i < items2.size := by omega
    have hi1 : items[((i : Nat) : Int).toNat]? = some items[i] := by simp [q1]
    have hi2 : items2[((i : Nat) : Int).toNat]? = some items2[i] := by simp [q2]
    have hc : ((i : Int) + 1) = ((i + 1 : Nat) : Int) := by push_cast; rfl
    rw [hi1, hi2]
    refine wpAny_bind (he i q1 q2 (by omega) prog w _ _ ?_)
    rw [decide_eq_true (by omega)]
    wp_walk
    rw [hc]
    exact ⟨plainId_quiet plain_eq_loop _, codeAny_builtin entry_eq_loop (by
      rw [Around.under_plainId plain_eq_loop _]
      exact ih (i + 1) (by omega) (by omega) prog w A R _ ⟨hl, hb, he, hlt, h⟩)⟩
theorem list_ltAt (l b : Addr) (items items2 : Array Value) (n n2 : Nat) (dd dd2 : Option Addr) (sl sl2 : Array (Option Value)) (d : Nat) (r : Bool) (h1 : d < items.size) (h2 : d < items2.size) :
    Meets (Builtin.«list.__lt__» ⟨[.ref l, .ref b], []⟩)
      (fun A R s => s.heap.get? l = some { cls := .type "list", dict := dd, data := .seq items n, slots := sl } ∧ s.heap.get? b = some { cls := .type "list", dict := dd2, data := .seq items2 n2, slots := sl2 } ∧
        (∀ j (h1 : j < items.size) (h2 : j < items2.size), j ≤ d → EqAt A.in1 s items[j] items2[j] (decide (j < d))) ∧ LtAt A.in1 s items[d] items2[d] r ∧
        R (.ok (.ret (.bool r))) s) := by
  intro prog w A R s h
  obtain ⟨hp, g, dr, tk, os⟩ := s; obtain ⟨hl, hb, he, hlt, h⟩ := h
  have f3 := AutoSeq1.sub_list_list
  wp_walk using wpAny_loadPart' hl, wpAny_loadPart' hb
  exact ⟨plainId_quiet plain_eq_loop _, codeAny_builtin entry_eq_loop (by
    rw [Around.under_plainId plain_eq_loop _]
    exact lt_loopAt l b items items2 n n2 dd dd2 sl sl2 d r h1 h2 _ 0 rfl (Nat.zero_le _) prog w A R _ ⟨hl, hb, he, hlt, h⟩)⟩
theorem LtAt.int_int {A : Around} {s : Shared} (a : Int) (t : Tok) (b : Int) (u : Tok) : LtAt A s (.int a t) (.int b u) (decide (a < b)) := fun prog w E Q h => PyProof.Rows.lt_int (Q := Q) h
/-- One question of a sort of lists. -/
theorem one_lt_list {prog : Program} {w : World} {A : Around} {E : Value → Shared → Prop} {s : Shared} {l b : Addr} {xs ys : Array Value} {d : Nat} {r : Bool} {Q : Bool → Shared → Prop} (hl : s.heap.IsList l xs) (hb : s.heap.IsList b ys) (h1 : d < xs.size) (h2 : d < ys.size) (hu : A.units < cLine)
    (he : ∀ j (h1 : j < xs.size) (h2 : j < ys.size), j ≤ d → EqAt A.in1 s xs[j] ys[j] (decide (j < d))) (hlt : LtAt A.in1 s xs[d] ys[d] r) (h : Q r s) : wpAny (model prog w) A (keyLt' oneType' (.ref l) (.ref b)) Q E s := by
  obtain ⟨⟨cls, dd, data, sl⟩, ho, hc, n, hd⟩ := id hl
  obtain ⟨⟨cls2, dd2, data2, sl2⟩, ho2, hc2, n2, hd2⟩ := id hb
  simp only at hc hd hc2 hd2
  subst hc hd hc2 hd2
  rw [keyLt'_oneType, oneLt'_eq]
  simp only [if_true]
  refine wpAny_bind (wpAny_cRoomFor hu ?_)
  refine wpAny_bind (wpAny_callSpecialIfBound?_slot (T := "list") (id := "list.__lt__") ⟨_, ho, rfl⟩ PySem.F.slot_list_lt (call_meets PySem.F.slot_list_lt ⟨_, ho, rfl⟩ PySem.F.entry_list_lt (PySem.F.args_list_lt_2 _ _) (list_ltAt l b xs ys n n2 dd dd2 sl sl2 d r h1 h2) ⟨ho, ho2, he, hlt, ?_⟩))
  exact wpAny_truthy_bool h
end Mine
end
theorem Mine.fresh61 : True := by
  w_top off
  trivial
section
open PySem PySem.W PyProof.Rows
namespace Mine
namespace Srt
/-- The sort's questions at distinct keys. -/
structure Ask (n : Nat) (f : Nat → Nat) (cmp : Nat → Nat → (Bool → Shared → Prop) → Shared → Prop) (s : Shared) : Prop where
  ask : ∀ i j, i < n → j < n → i ≠ j → ∀ C, C (decide (f i < f j)) s → cmp i j C s
  inj : ∀ i j, i < n → j < n → f i = f j → i = j
def g (p : Array Nat) (i : Nat) : Nat := p.getD i 0
structure Pm (n : Nat) (p : Array Nat) : Prop where
  size : p.size = n
  perm : p.toList.Perm (List.range n)
theorem Pm.lt {n : Nat} {p : Array Nat} (h : Pm n p) {i : Nat} (hi : i < n) : g p i < n := by
  have hs : i < p.size := h.size ▸ hi
  have e : g p i = p[i] := by simp [g, Array.getD, hs]
  have : p[i] ∈ p.toList := by simp
  rw [e]
  exact List.mem_range.mp (h.perm.mem_iff.mp this)
theorem Pm.ne {n : Nat} {p : Array Nat} (h : Pm n p) {i j : Nat} (hi : i < n) (hj : j < n) (hij : i ≠ j) : g p i ≠ g p j := by
  have hs : i < p.size := h.size ▸ hi
  have ht : j < p.size := h.size ▸ hj
  have e : g p i = p[i] := by simp [g, Array.getD, hs]
  have e' : g p j = p[j] := by simp [g, Array.getD, ht]
  rw [e, e']
  have nd : p.toList.Nodup := h.perm.nodup_iff.mpr List.nodup_range
  rcases Nat.lt_or_gt_of_ne hij with hl | hl
  · have := List.pairwise_iff_getElem.mp nd i j (by simpa using hs) (by simpa using ht) hl
    simpa using this
  · have := List.pairwise_iff_getElem.mp nd j i (by simpa using ht) (by simpa using hs) hl
    simpa using this.symm
theorem Pm.of {n : Nat} {p q : Array Nat} (h : Pm n p) (hp : q.Perm p) : Pm n q := ⟨hp.size_eq.trans h.size, (Array.perm_iff_toList_perm.mp hp).trans h.perm⟩
/-- The first k stand in order. -/
def Asc (f : Nat → Nat) (p : Array Nat) (k : Nat) : Prop := ∀ i, i + 1 < k → f (g p i) < f (g p (i + 1))
theorem Asc.lt {f : Nat → Nat} {p : Array Nat} {k : Nat} (h : Asc f p k) : ∀ {i j : Nat}, i < j → j < k → f (g p i) < f (g p j) := by
  intro i j hij hj
  induction j with
  | zero => omega
  | succ j ih =>
    by_cases e : i = j
    · subst e; exact h i hj
    · exact Nat.lt_trans (ih (by omega) (by omega)) (h j hj)
section
variable {n : Nat} {f : Nat → Nat} {cmp : Nat → Nat → (Bool → Shared → Prop) → Shared → Prop} {s : Shared}
theorem wp_bind {α β : Type} {t : KasT α} {k : α → KasT β} {Q : β → Shared → Prop} (h : t.kasWp cmp (fun a s' => (k a).kasWp cmp Q s') s) : (t.bind k).kasWp cmp Q s := by
  rw [KasT.kasWp_bind]; exact h
theorem asc_spec (A : Ask n f cmp s) {p : Array Nat} (P : Pm n p) {Q : Nat → Shared → Prop} : ∀ (u k : Nat), 1 ≤ k → k + u ≤ n → Asc f p k → (∀ m, k ≤ m → m ≤ k + u → Asc f p m → (m = k + u ∨ f (g p m) < f (g p (m - 1))) → Q m s) → (kas_asc p u k).kasWp cmp Q s
  | 0, k, _, _, ha, hq => hq k (Nat.le_refl _) (Nat.le_refl _) ha (.inl rfl)
  | u + 1, k, h1, hk, ha, hq => by
    refine A.ask _ _ (P.lt (i := k) (by omega)) (P.lt (i := k - 1) (by omega)) (P.ne (by omega) (by omega) (by omega)) _ ?_
    by_cases c : f (g p k) < f (g p (k - 1))
    · rw [decide_eq_true c]; exact hq k (Nat.le_refl _) (by omega) ha (.inr c)
    · rw [decide_eq_false c]
      refine asc_spec A P u (k + 1) (by omega) (by omega) (fun i hi => ?_) (fun m h2 h3 h4 h5 => hq m (by omega) (by omega) h4 (h5.imp (fun h => by omega) id))
      by_cases e : i + 1 < k
      · exact ha i e
      · have e' : i + 1 = k := by omega
        subst e'
        have hne : f (g p i) ≠ f (g p (i + 1)) := fun q => P.ne (i := i) (j := i + 1) (by omega) (by omega) (by omega) (A.inj _ _ (P.lt (by omega)) (P.lt (by omega)) q)
        rw [Nat.add_sub_cancel] at c
        omega
theorem desc_spec (A : Ask n f cmp s) {p : Array Nat} (P : Pm n p) {Q : Array Nat × Nat × Nat → Shared → Prop} : ∀ (u k : Nat), 1 ≤ k → k + u ≤ n → (∀ i, i + 1 < k → f (g p (i + 1)) < f (g p i)) →
    (∀ m, k ≤ m → m ≤ k + u → (∀ i, i + 1 < m → f (g p (i + 1)) < f (g p i)) → Q (p, m, 0) s) → (kas_desc u p k 0).kasWp cmp Q s
  | 0, k, _, _, ha, hq => hq k (Nat.le_refl _) (Nat.le_refl _) ha
  | u + 1, k, h1, hk, ha, hq => by
    have hne : f (g p k) ≠ f (g p (k - 1)) := fun q => P.ne (i := k) (j := k - 1) (by omega) (by omega) (by omega) (A.inj _ _ (P.lt (by omega)) (P.lt (by omega)) q)
    refine A.ask _ _ (P.lt (i := k) (by omega)) (P.lt (i := k - 1) (by omega)) (P.ne (by omega) (by omega) (by omega)) _ ?_
    by_cases c : f (g p k) < f (g p (k - 1))
    · rw [decide_eq_true c]
      show (kas_desc u p (k + 1) 0).kasWp cmp Q s
      refine desc_spec A P u (k + 1) (by omega) (by omega) (fun i hi => ?_) (fun m h2 h3 h4 => hq m (by omega) (by omega) h4)
      by_cases e : i + 1 < k
      · exact ha i e
      · have e' : i + 1 = k := by omega
        subst e'
        rw [Nat.add_sub_cancel] at c
        exact c
    · rw [decide_eq_false c]
      refine A.ask _ _ (P.lt (i := k - 1) (by omega)) (P.lt (i := k) (by omega)) (P.ne (by omega) (by omega) (by omega)) _ ?_
      have c' : f (g p (k - 1)) < f (g p k) := by omega
      rw [decide_eq_true c']
      exact hq k (Nat.le_refl _) (by omega) ha
theorem place_spec (A : Ask n f cmp s) {p : Array Nat} (P : Pm n p) {k : Nat} (hk : k < n) (ha : Asc f p k) {Q : Nat → Shared → Prop} : ∀ (u l r : Nat), r - l ≤ u → l ≤ r → r ≤ k → (∀ i, i < l → f (g p i) < f (g p k)) → (∀ i, r ≤ i → i < k → f (g p k) < f (g p i)) →
    (∀ m, m ≤ k → (∀ i, i < m → f (g p i) < f (g p k)) → (∀ i, m ≤ i → i < k → f (g p k) < f (g p i)) → Q m s) → (kas_place p k u l r).kasWp cmp Q s
  | 0, l, r, hu, hlr, hrk, h1, h2, hq => hq l (by omega) h1 (fun i h3 h4 => h2 i (by omega) h4)
  | u + 1, l, r, hu, hlr, hrk, h1, h2, hq => by
    show (if l ≥ r then KasT.ret l else _ : KasT Nat).kasWp cmp Q s
    by_cases e : l ≥ r
    · rw [if_pos e]; exact hq l (by omega) h1 (fun i h3 h4 => h2 i (by omega) h4)
    · rw [if_neg e]
      have hne : f (g p k) ≠ f (g p ((l + r) / 2)) := fun q => P.ne (i := k) (j := (l + r) / 2) (by omega) (by omega) (by omega) (A.inj _ _ (P.lt (by omega)) (P.lt (by omega)) q)
      refine A.ask _ _ (P.lt (i := k) (by omega)) (P.lt (i := (l + r) / 2) (by omega)) (P.ne (by omega) (by omega) (by omega)) _ ?_
      by_cases c : f (g p k) < f (g p ((l + r) / 2))
      · rw [decide_eq_true c]
        show (kas_place p k u l ((l + r) / 2)).kasWp cmp Q s
        refine place_spec A P hk ha u l ((l + r) / 2) (by omega) (by omega) (by omega) h1 (fun i h3 h4 => ?_) hq
        by_cases e2 : i = (l + r) / 2
        · rw [e2]; exact c
        · exact Nat.lt_trans c (ha.lt (by omega) h4)
      · rw [decide_eq_false c]
        show (kas_place p k u ((l + r) / 2 + 1) r).kasWp cmp Q s
        refine place_spec A P hk ha u ((l + r) / 2 + 1) r (by omega) (by omega) (by omega) (fun i h3 => ?_) h2 hq
        by_cases e2 : i = (l + r) / 2
        · rw [e2]; omega
        · have := ha.lt (i := i) (j := (l + r) / 2) (by omega) (by omega)
          omega
theorem g_of {p q : Array Nat} {i j : Nat} (h : q[i]? = p[j]?) : g q i = g p j := by
  unfold g
  rw [Array.getD_eq_getD_getElem?, Array.getD_eq_getD_getElem?, h]
theorem bin_spec (A : Ask n f cmp s) {Q : Array Nat → Shared → Prop} : ∀ (u k : Nat) (p : Array Nat), Pm n p → 1 ≤ k → k + u = n → Asc f p k → (∀ q, Pm n q → Asc f q n → Q q s) → (kas_bin u p k).kasWp cmp Q s
  | 0, k, p, P, _, hk, ha, hq => hq p P (by rw [← hk]; exact ha)
  | u + 1, k, p, P, h1, hk, ha, hq => by
    refine wp_bind (place_spec A P (k := k) (by omega) ha k 0 k (by omega) (by omega) (by omega) (fun i h => absurd h (Nat.not_lt_zero _)) (fun i h3 h4 => absurd h4 (by omega)) fun l hl h3 h4 => ?_)
    have hs : k < p.size := by rw [P.size]; omega
    refine bin_spec A u (k + 1) (bubble p k (k - l)) (P.of (bubble_perm _ _ _)) (by omega) (by omega) (fun i hi => ?_) hq
    have key : ∀ j, g (bubble p k (k - l)) j = if j = l then g p k else if l < j ∧ j ≤ k then g p (j - 1) else g p j := by
      intro j
      have e := getElem?_bubble hs (k - l) (by omega) j
      have e1 : k - (k - l) = l := by omega
      rw [e1] at e
      by_cases c1 : j = l
      · rw [if_pos c1] at e ⊢; exact g_of e
      · rw [if_neg c1] at e ⊢
        by_cases c2 : l < j ∧ j ≤ k
        · rw [if_pos c2] at e ⊢; exact g_of e
        · rw [if_neg c2] at e ⊢; exact g_of e
    rw [key i, key (i + 1)]
    by_cases a1 : i < l
    · rw [if_neg (by omega), if_neg (by omega)]
      by_cases a2 : i + 1 = l
      · rw [if_pos a2]; exact h3 i a1
      · rw [if_neg a2, if_neg (by omega)]; exact ha i (by omega)
    · by_cases a2 : i = l
      · rw [if_pos a2, if_neg (by omega), if_pos (by omega)]
        rw [Nat.add_sub_cancel]
        exact h4 i (by omega) (by omega)
      · rw [if_neg a2, if_pos (by omega), if_neg (by omega), if_pos (by omega)]
        have := ha (i - 1) (by omega)
        rw [Nat.add_sub_cancel]
        rwa [Nat.sub_add_cancel (by omega)] at this
theorem range_pm (n : Nat) : Pm n (List.toArray (List.range n)) := ⟨by simp, by simp⟩
theorem rev_asc {p : Array Nat} {k : Nat} (hk : k ≤ p.size) (h : ∀ i, i + 1 < k → f (g p (i + 1)) < f (g p i)) : Asc f (kas_rev p 0 k) k := by
  have key : ∀ j, j < k → g (kas_rev p 0 k) j = g p (k - 1 - j) := fun j hj => by
    have e := getElem?_mirror_all (i := 0) (j := k) hk j
    rw [if_pos ⟨Nat.zero_le _, hj⟩] at e
    rw [show 0 + k - 1 - j = k - 1 - j by omega] at e
    exact g_of e
  intro i hi
  rw [key i (by omega), key (i + 1) hi]
  have := h (k - 1 - (i + 1)) (by omega)
  rwa [show k - 1 - (i + 1) + 1 = k - 1 - i by omega] at this
theorem count_spec (A : Ask n f cmp s) {p : Array Nat} (P : Pm n p) (hn : 2 ≤ n) {Q : Nat × Array Nat → Shared → Prop} (hq : ∀ m q, 1 ≤ m → m ≤ n → Pm n q → Asc f q m → Q (m, q) s) : (kas_count n p).kasWp cmp Q s := by
  refine wp_bind (asc_spec A P (n - 1) 1 (by omega) (by omega) (fun i hi => absurd hi (by omega)) fun m h1 h2 h3 h5 => ?_)
  by_cases e : (m == n) = true
  · rw [if_pos e]; exact hq m p h1 (by omega) P h3
  · rw [if_neg e]
    have hmn : m ≠ n := by simpa using e
    by_cases e2 : m > 1
    · rw [if_pos e2]
      refine A.ask _ _ (P.lt (i := 0) (by omega)) (P.lt (i := m - 1) (by omega)) (P.ne (by omega) (by omega) (by omega)) _ ?_
      have c : f (g p 0) < f (g p (m - 1)) := h3.lt (by omega) (by omega)
      rw [decide_eq_true c]
      exact hq m p h1 (by omega) P h3
    · rw [if_neg e2]
      have em : m = 1 := by omega
      subst em
      have c0 : f (g p 1) < f (g p 0) := h5.resolve_left (by omega)
      refine wp_bind (desc_spec A P (n - (1 + 1)) (1 + 1) (by omega) (by omega) (fun i hi => by
        have : i = 0 := by omega
        subst this; exact c0) fun m h6 h7 h8 => ?_)
      refine wp_bind (asc_spec A (P.of (mirror_perm _ _ _ _)) (n - m) m (by omega) (by omega) (rev_asc (k := m) (by rw [P.size]; omega) h8) fun m' h9 h10 h11 _ => ?_)
      exact hq m' _ (by omega) (by omega) (P.of (mirror_perm _ _ _ _)) h11
theorem sort_spec (A : Ask n f cmp s) (hn : 2 ≤ n) {Q : Array Nat → Shared → Prop} (hq : ∀ q, Pm n q → Asc f q n → Q q s) : (kas_sort n).kasWp cmp Q s := by
  refine wp_bind (count_spec A (range_pm n) hn fun m q h1 h2 P ha => ?_)
  by_cases e : m < n
  · rw [if_pos e]
    rw [Nat.max_eq_left h1]
    exact bin_spec A (n - m) m q P h1 (by omega) ha hq
  · rw [if_neg e]
    have : m = n := by omega
    subst this
    exact hq q P ha
end
end Srt
end Mine
end
theorem Mine.fresh62 : True := by
  w_top off
  trivial
section
open PySem PySem.W PyProof.Rows
set_option maxRecDepth 100000
set_option maxHeartbeats 8000000
namespace Mine

open PySem.SeqAt
theorem cellIs_int : ∀ {v : Value} {k : Int}, CellIs v (.I k) → ∃ t, v = .int k t
  | .int _ t, _, h => ⟨t, by rw [show _ = _ from h]⟩
theorem sign_cmp {n1 n2 : Int} (hn : n1 < n2) {x y : Nat} (hx : x < 3) (hy : y < 3) (hxy : x ≠ y) : ∃ e < 2, (∀ j ≤ e, cellEq ((signC n1 n2 x).getD j (.I 0)) ((signC n1 n2 y).getD j (.I 0)) = decide (j < e)) ∧ ∃ u v, (signC n1 n2 x).getD e (.I 0) = .I u ∧ (signC n1 n2 y).getD e (.I 0) = .I v ∧ decide (u < v) = decide (x < y) := by
  have hx' : x = 0 ∨ x = 1 ∨ x = 2 := by omega
  have hy' : y = 0 ∨ y = 1 ∨ y = 2 := by omega
  have h0 : ∀ (p : Nat → Prop), p 0 → ∀ j ≤ 0, p j := fun p h j hj => by
    have e : j = 0 := by omega
    rw [e]; exact h
  have h1 : ∀ (p : Nat → Prop), p 0 → p 1 → ∀ j ≤ 1, p j := fun p h h' j hj => by
    have : j = 0 ∨ j = 1 := by omega
    rcases this with rfl | rfl
    · exact h
    · exact h'
  rcases hx' with rfl | rfl | rfl <;> rcases hy' with rfl | rfl | rfl
  · exact absurd rfl hxy
  · exact ⟨0, by omega, h0 _ (by simp [signC, cellEq]), 0, 100, rfl, rfl, by decide⟩
  · exact ⟨0, by omega, h0 _ (by simp [signC, cellEq]), 0, 100, rfl, rfl, by decide⟩
  · exact ⟨0, by omega, h0 _ (by simp [signC, cellEq]), 100, 0, rfl, rfl, by decide⟩
  · exact absurd rfl hxy
  · exact ⟨1, by omega, h1 _ (by simp [signC, cellEq]) (by simp [signC, cellEq]; omega), n1, n2, rfl, rfl, by simp [hn]⟩
  · exact ⟨0, by omega, h0 _ (by simp [signC, cellEq]), 100, 0, rfl, rfl, by decide⟩
  · exact ⟨1, by omega, h1 _ (by simp [signC, cellEq]) (by simp [signC, cellEq]; omega), n2, n1, rfl, rfl, by simp; omega⟩
  · exact absurd rfl hxy
theorem toldC_get (n1 n2 : Int) (q : Nat) (j : Nat) : (toldC n1 n2 q).getD j (.I 0) = if j < 2 then (signC n1 n2 (q / 9)).getD j (.I 0) else if j < 4 then (signC n1 n2 (q / 3 % 3)).getD (j - 2) (.I 0) else (signC n1 n2 (q % 3)).getD (j - 4) (.I 0) := by
  unfold toldC
  have l1 := signC_len n1 n2 (q / 9)
  have l2 := signC_len n1 n2 (q / 3 % 3)
  rw [List.append_assoc]
  simp only [List.getD_eq_getElem?_getD]
  by_cases h : j < 2
  · rw [if_pos h, List.getElem?_append_left (by omega)]
  · rw [if_neg h, List.getElem?_append_right (by omega), l1]
    by_cases h4 : j < 4
    · rw [if_pos h4, List.getElem?_append_left (by omega)]
    · rw [if_neg h4, List.getElem?_append_right (by omega), l2, show j - 2 - 2 = j - 4 by omega]
theorem cellEq_self (c : Cell) : cellEq c c = true := by cases c <;> simp [cellEq]
theorem code_c : ∀ p < 27, ∀ q < 27, p / 9 = q / 9 → p / 3 % 3 = q / 3 % 3 → (p % 3 < q % 3 ↔ p < q) := by decide +kernel
theorem code_b : ∀ p < 27, ∀ q < 27, p / 9 = q / 9 → p / 3 % 3 ≠ q / 3 % 3 → (p / 3 % 3 < q / 3 % 3 ↔ p < q) := by decide +kernel
theorem code_a : ∀ p < 27, ∀ q < 27, p / 9 ≠ q / 9 → (p / 9 < q / 9 ↔ p < q) := by decide +kernel
theorem code_n : ∀ p < 27, ∀ q < 27, p / 9 = q / 9 → p / 3 % 3 = q / 3 % 3 → p % 3 = q % 3 → p = q := by decide +kernel
theorem code_9 {p : Nat} (h : p < 27) : p / 9 < 3 := Nat.div_lt_of_lt_mul h
theorem mod_3 (p : Nat) : p % 3 < 3 := Nat.mod_lt _ (by decide)
theorem told_cmp {n1 n2 : Int} (hn : n1 < n2) {p q : Nat} (hp : p < 27) (hq : q < 27) (hpq : p ≠ q) : ∃ d < 6, (∀ j ≤ d, cellEq ((toldC n1 n2 p).getD j (.I 0)) ((toldC n1 n2 q).getD j (.I 0)) = decide (j < d)) ∧ ∃ u v, (toldC n1 n2 p).getD d (.I 0) = .I u ∧ (toldC n1 n2 q).getD d (.I 0) = .I v ∧ decide (u < v) = decide (p < q) := by
  by_cases h1 : p / 9 = q / 9
  · by_cases h2 : p / 3 % 3 = q / 3 % 3
    · obtain ⟨e, he, ha, u, v, hu, hv, hd⟩ := sign_cmp hn (x := p % 3) (y := q % 3) (mod_3 _) (mod_3 _) (fun e => hpq (code_n p hp q hq h1 h2 e))
      refine ⟨e + 4, by omega, fun j hj => ?_, u, v, ?_, ?_, ?_⟩
      · rw [toldC_get, toldC_get]
        by_cases c1 : j < 2
        · rw [if_pos c1, if_pos c1, h1, cellEq_self, decide_eq_true (by omega)]
        · rw [if_neg c1, if_neg c1]
          by_cases c2 : j < 4
          · rw [if_pos c2, if_pos c2, h2, cellEq_self, decide_eq_true (by omega)]
          · rw [if_neg c2, if_neg c2, ha (j - 4) (by omega)]
            exact decide_eq_decide.mpr ⟨fun h => by omega, fun h => by omega⟩
      · rw [toldC_get, if_neg (by omega), if_neg (by omega), Nat.add_sub_cancel]; exact hu
      · rw [toldC_get, if_neg (by omega), if_neg (by omega), Nat.add_sub_cancel]; exact hv
      · rw [hd]; exact decide_eq_decide.mpr (code_c p hp q hq h1 h2)
    · obtain ⟨e, he, ha, u, v, hu, hv, hd⟩ := sign_cmp hn (x := p / 3 % 3) (y := q / 3 % 3) (mod_3 _) (mod_3 _) h2
      refine ⟨e + 2, by omega, fun j hj => ?_, u, v, ?_, ?_, ?_⟩
      · rw [toldC_get, toldC_get]
        by_cases c1 : j < 2
        · rw [if_pos c1, if_pos c1, h1, cellEq_self, decide_eq_true (by omega)]
        · rw [if_neg c1, if_neg c1, if_pos (by omega), if_pos (by omega), ha (j - 2) (by omega)]
          exact decide_eq_decide.mpr ⟨fun h => by omega, fun h => by omega⟩
      · rw [toldC_get, if_neg (by omega), if_pos (by omega), Nat.add_sub_cancel]; exact hu
      · rw [toldC_get, if_neg (by omega), if_pos (by omega), Nat.add_sub_cancel]; exact hv
      · rw [hd]; exact decide_eq_decide.mpr (code_b p hp q hq h1 h2)
  · obtain ⟨e, he, ha, u, v, hu, hv, hd⟩ := sign_cmp hn (x := p / 9) (y := q / 9) (code_9 hp) (code_9 hq) h1
    refine ⟨e, by omega, fun j hj => ?_, u, v, ?_, ?_, ?_⟩
    · rw [toldC_get, toldC_get, if_pos (by omega), if_pos (by omega), ha j hj]
    · rw [toldC_get, if_pos (by omega)]; exact hu
    · rw [toldC_get, if_pos (by omega)]; exact hv
    · rw [hd]; exact decide_eq_decide.mpr (code_a p hp q hq h1)
theorem told_len (n1 n2 : Int) (q : Nat) : (toldC n1 n2 q).length = 6 := by simp [toldC, signC_len]
section
variable {prog : Program} {w : World} {A : Around} {E : Value → Shared → Prop} {s : Shared} {h₀ : Heap} {L : Addr} {m : Str → Option Value} {news : List (Addr × Obj)} {n1 n2 : Int}
theorem sorted_told {q : Addr} {tl : Nat → Addr} {tv : Nat → Array Value} {tn code : Nat → Nat} {n : Nat} {Q : Value → Shared → Prop} (hn12 : n1 < n2) (hu : A.units + 9 < cLine) (F : Fr h₀ L s.heap m) (N : News h₀ L s.heap news) (hl : s.heap.IsList q (refsOf tl n).toArray) (h2 : 2 ≤ n) (h27 : n ≤ 27)
    (hm : ∀ t < n, (tl t, listOf (tv t) (tn t)) ∈ news) (hc : ∀ t < n, Cells (tv t).toList (toldC n1 n2 (code t))) (hlt : ∀ t < n, code t < 27) (hinj : ∀ i j, i < n → j < n → code i = code j → i = j)
    (h : ∀ D p h' c, Fr h₀ L h' m → News h₀ L h' ((D, listOf (refsOf (fun i => tl (Srt.g p i)) n).toArray c) :: news) → (∀ q ∈ news, q.1 < D) → Srt.Pm n p → Srt.Asc code p n → Q (.ref D) { s with heap := h' }) :
    wpAny (model prog w) A (call (.builtin "sorted") [.ref q]) Q E s := by
  have hlen : (refsOf tl n).length = n := by simp [refsOf]
  refine kas_sorted (vs := refsOf tl n) (T := .type "list") F N hl (by omega) (by omega) (fun h F' N' v hv => ?_) (by decide) (fun D e1 h' F' N' hlt' => ?_)
  · obtain ⟨t, ht, rfl⟩ := List.mem_map.mp hv
    exact (Looks.ld (N' _ (hm t (List.mem_range.mp ht))).1).andThen .now
  · rw [hlen]
    have gd : ∀ i < n, (refsOf tl n).getD i Value.none = .ref (tl i) := fun i hi => by
      rw [List.getD_eq_getElem?_getD, refsOf_get tl hi]; rfl
    have AA : Srt.Ask n code (kas_ask prog w A.in1.in1 oneType' (refsOf tl n)) { s with heap := h' } := ⟨fun i j hi hj hij C hC => ?_, hinj⟩
    refine Srt.sort_spec AA h2 (fun p P ha => ?_)
    · refine KasFin.intro F' N' (.head (fun q hq => Nat.ne_of_lt (hlt' q hq))) (fun h'' c F'' N'' => h D p h'' c F'' ?_ hlt' P ha)
      have e : (p.toList.map fun i => (refsOf tl n).getD i Value.none) = refsOf (fun i => tl (Srt.g p i)) n := by
        apply List.ext_getElem (by simp [refsOf, P.size])
        intro i h1 h2
        have hi : i < n := by simpa [refsOf] using h2
        have hs : i < p.size := by rw [P.size]; exact hi
        have eg : p[i] = Srt.g p i := by simp [Srt.g, Array.getD, hs]
        simp only [List.getElem_map, Array.getElem_toList]
        rw [eg, gd _ (P.lt hi)]
        simp [refsOf]
      rw [e] at N''
      exact N''
    · unfold kas_ask
      rw [gd i hi, gd j hj]
      obtain ⟨d, hd, hae, u, v, hu', hv', hdd⟩ := told_cmp hn12 (hlt i hi) (hlt j hj) (fun e => hij (hinj i j hi hj e))
      have ci := hc i hi
      have cj := hc j hj
      have li : (tv i).size = 6 := by rw [← Array.length_toList, ci.length, told_len]
      have lj : (tv j).size = 6 := by rw [← Array.length_toList, cj.length, told_len]
      refine one_lt_list (d := d) (r := decide (code i < code j)) (isList_of N' (.tail _ (hm i hi))) (isList_of N' (.tail _ (hm j hj))) (by omega) (by omega) (by show A.units + 1 + 1 < cLine; omega) (fun t h1 h2 ht => ?_) ?_ hC
      · have a := ci.get t (by simpa using h1)
        have b := cj.get t (by simpa using h2)
        rw [Array.getElem_toList] at a b
        rw [← hae t ht]
        exact eq_cell a b
      · have a := ci.get d (by rw [Array.length_toList, li]; exact hd)
        have b := cj.get d (by rw [Array.length_toList, lj]; exact hd)
        rw [Array.getElem_toList] at a b
        rw [hu'] at a
        rw [hv'] at b
        rw [← hdd]
        obtain ⟨t1, e1⟩ := cellIs_int a
        obtain ⟨t2, e2⟩ := cellIs_int b
        rw [e1, e2]
        exact LtAt.int_int u t1 v t2
end
end Mine
end
theorem Mine.fresh63 : True := by
  w_top off
  trivial
section
open PySem PySem.W PyProof.Rows
set_option maxRecDepth 100000
set_option maxHeartbeats 8000000
namespace Mine

open PySem.Calls
section
variable {prog : Program} {w : World} {A : Around} {E : Value → Shared → Prop} {s : Shared} {h₀ : Heap} {L : Addr} {m : Str → Option Value} {P : Value → Prop}
  {x : Str} {px : Pos} {elt iter c : Expr} {scope : Scope} {pos : Pos} {cl : List (Str × Addr)} {env : Env}
/-- The source of a comprehension of which nothing comes. -/
def CN (h₀ : Heap) (L : Addr) (m : Str → Option Value) (P : Value → Prop) (base : List (Addr × Obj)) (xv : Value) (s₁ : Shared) : Prop :=
  ∃ ax its k, xv = .ref ax ∧ Fr h₀ L s₁.heap m ∧ News h₀ L s₁.heap ((ax, listOf its k) :: base) ∧ ∀ v ∈ its, P v
theorem comp_none {Q : Value → Shared → Prop} {base : List (Addr × Obj)} (hh : A.handled = none) (hclos : closureFor scope env = pure cl) (hcell : ∀ y ∈ scope.names, y.2 ≠ .cell) (hkind : scope.kind = .function) (hnames : ∀ y ∈ scope.names, y.2 = .local → scope.names.lookup y.1 = some .local) (hx : scope.names.lookup x = some .local)
    (hs : ∀ v, foldedSetIterable iter env v = pure v)
    (test : ∀ v s₂ C oC mc (nw : List (Addr × Obj)), P v → mc x = some v → LCg.NsObj oC mc → Fr h₀ L s₂.heap m → News h₀ L s₂.heap ((C, oC) :: (nw ++ base)) → (∃ h tk, s₂ = { s with heap := h, toks := tk }) →
      wpAny (model prog w) A (isTrue c (compEnvC scope cl C env) (eval c (compEnvC scope cl C env))) (fun b s' => b = false ∧ Fr h₀ L s'.heap m ∧ News h₀ L s'.heap ((C, oC) :: (nw ++ base)) ∧ ∃ h tk, s' = { s₂ with heap := h, toks := tk }) (fun _ _ => False) s₂)
    (hit : wpAny (model prog w) A (eval iter env) (fun v s₁ => CN h₀ L m P base v s₁ ∧ ∃ h tk, s₁ = { s with heap := h, toks := tk }) E s)
    (h : ∀ D h' tk', Fr h₀ L h' m → News h₀ L h' ((D, listOf #[] 0) :: base) → (∀ p ∈ base, p.1 < D) → Q (.ref D) { s with heap := h', toks := tk' }) :
    wpAny (model prog w) A (eval (.ListComp elt [⟨.Name x px, iter, [c], 0⟩] scope pos) env) Q E s := by
  rw [eval_ListComp]
  refine wpAny_comprehension_free (use := none) rfl hs hclos hkind hnames ?_
  show wpAny _ _ (eval iter env) _ _ _
  refine wpAny_mono hit (fun xv s₁ h₁ => ?_) fun _ _ e => e
  obtain ⟨⟨ax, its, k, rfl, F, N, hP⟩, hs1, tk1, rfl⟩ := h₁
  refine wpAny_pyIter_list (isList_of N (.head _)) ?_
  have F1 := F.push { cls := .type "list_iterator", data := .fields #[.ref ax, .int 0 0] }
  have up1 : ∀ b o, hs1.get? b = some o → (hs1.push { cls := .type "list_iterator", data := .fields #[.ref ax, .int 0 0] }).get? b = some o := fun b o e => Heap.get?_push_of_some _ e
  have hi1 : (hs1.push { cls := .type "list_iterator", data := .fields #[.ref ax, .int 0 0] }).IsListIter hs1.objs.size ax 0 := ⟨_, Heap.get?_push_size _ rfl, rfl, rfl⟩
  have i0 : h₀.get? hs1.objs.size = none := next_is_new F
  have iL : hs1.objs.size ≠ L := Nat.ne_of_gt F.ns.lt
  have ib : ∀ p ∈ (ax, listOf its k) :: base, p.1 ≠ hs1.objs.size := fun p hp => Nat.ne_of_lt (Heap.lt_size (N p hp).1)
  have isz : hs1.objs.size < (hs1.push { cls := .type "list_iterator", data := .fields #[.ref ax, .int 0 0] }).objs.size := by rw [Heap.size_push]; exact Nat.lt_succ_self _
  dsimp only
  generalize hs1.push { cls := .type "list_iterator", data := .fields #[.ref ax, .int 0 0] } = H1 at F1 up1 hi1 isz ⊢
  refine wpAny_newObj_type (wpAny_newFunctionEnv hcell (by intro y hy; simp at hy) (fun h₁ hns₁ hsb₁ => ?_) hkind)
  dsimp only at hns₁ hsb₁ ⊢
  have F2 := F1.push (listOf #[] 0)
  have N2 : News h₀ L (H1.push (listOf #[] 0)) ((H1.objs.size, listOf #[] 0) :: (ax, listOf its k) :: base) := fun p hp => by
    rcases List.mem_cons.mp hp with rfl | hp
    · exact ⟨Heap.get?_push_size _ rfl, Nat.ne_of_gt F1.ns.lt, next_is_new F1⟩
    · exact ⟨Heap.get?_push_of_some _ (up1 _ _ (N p hp).1), (N p hp).2⟩
  have up : ∀ b o, (H1.push (listOf #[] 0)).get? b = some o → h₁.get? b = some o := fun b o e => hsb₁.extBut b o (Nat.ne_of_lt (Heap.lt_size e)) (Heap.get?_push_of_some _ e)
  obtain ⟨oC, eC, hoC⟩ := LCg.ns_obj hns₁
  obtain ⟨oi, ei, ci⟩ := hi1
  have isz2 : hs1.objs.size < (H1.push (listOf #[] 0)).objs.size := by rw [Heap.size_push]; exact Nat.lt_succ_of_lt isz
  have cD : (H1.push (listOf #[] 0)).objs.size ≠ H1.objs.size := by rw [Heap.size_push]; exact Nat.ne_of_gt (Nat.lt_succ_self _)
  have c0 : h₀.get? (H1.push (listOf #[] 0)).objs.size = none := next_is_new F2
  have cL : (H1.push (listOf #[] 0)).objs.size ≠ L := Nat.ne_of_gt F2.ns.lt
  have cb : ∀ p ∈ (H1.objs.size, listOf #[] 0) :: (ax, listOf its k) :: base, p.1 ≠ (H1.push (listOf #[] 0)).objs.size := fun p hp => Nat.ne_of_lt (Heap.lt_size (N2 p hp).1)
  have hDlt : ∀ p ∈ base, p.1 < H1.objs.size := fun p hp => Heap.lt_size (up1 _ _ (N p (.tail _ hp)).1)
  have hN0 : News h₀ L h₁ (((H1.push (listOf #[] 0)).objs.size, oC) :: (([(hs1.objs.size, oi), (H1.objs.size, listOf #[] 0), (ax, listOf its k)] : List (Addr × Obj)) ++ base)) := fun p hp => by
    rcases List.mem_cons.mp hp with rfl | hp
    · exact ⟨eC, cL, c0⟩
    · rcases List.mem_append.mp hp with hp | hp
      · rcases List.mem_cons.mp hp with rfl | hp
        · exact ⟨up _ _ (Heap.get?_push_of_some _ ei), iL, i0⟩
        · rcases List.mem_cons.mp hp with rfl | hp
          · obtain ⟨a, b⟩ := N2 _ (.head _); exact ⟨up _ _ a, b⟩
          · rw [List.mem_singleton.mp hp]
            obtain ⟨a, b⟩ := N2 _ (.tail _ (.head _)); exact ⟨up _ _ a, b⟩
      · obtain ⟨a, b⟩ := N2 _ (.tail _ (.tail _ hp)); exact ⟨up _ _ a, b⟩
  generalize hCe : (H1.push (listOf #[] 0)).objs.size = C at *
  generalize hDe : H1.objs.size = D at *
  generalize hIe : hs1.objs.size = I at *
  have hIC : I ≠ C := Nat.ne_of_lt isz2
  have hID : I ≠ D := Nat.ne_of_lt isz
  have hIa : I ≠ ax := fun e => ib (ax, listOf its k) (.head _) e.symm
  have hLC : L ≠ C := Ne.symm cL
  have loop : codeAny (model prog w) A (.compLoop (.ListComp elt [⟨.Name x px, iter, [c], 0⟩] scope pos) 0 (.ref I) (.ref D) (compEnvC scope cl C env))
      (compPost (model prog w) A E none Q (.ref D) C) { s with heap := h₁, toks := tk1 + ([] : List (Str × Value)).length } := by
    refine codeAny_compLoop_tests
      (fun n s' => ∃ j oi' oC' mc', n = its.size + 1 - j ∧ j ≤ its.size ∧ (oi'.cls = .type "list_iterator" ∧ oi'.data = .fields #[.ref ax, .int j 0]) ∧ Fr h₀ L s'.heap m ∧ News h₀ L s'.heap ((C, oC') :: (([(I, oi'), (D, listOf #[] 0), (ax, listOf its k)] : List (Addr × Obj)) ++ base)) ∧ LCg.NsObj oC' mc' ∧ ∃ h tk, s' = { s with heap := h, toks := tk })
      ?_ (its.size + 1) ⟨0, oi, oC, _, rfl, Nat.zero_le _, ci, F2.keeps up, hN0, hoC, _, _, rfl⟩
    rintro n s' ⟨j, oi', oC', mc', rfl, hj, ci', F', N', hC', h9, tk9, rfl⟩
    have hl' : h9.IsList ax its := isList_of N' (.tail _ (.tail _ (.tail _ (.head _))))
    have hi' : h9.IsListIter I ax j := ⟨oi', (N' _ (.tail _ (.head _))).1, ci'⟩
    have hIn : ∀ p ∈ (C, oC') :: (([(D, listOf #[] 0), (ax, listOf its k)] : List (Addr × Obj)) ++ base), p.1 ≠ I := fun p hp => by
      rcases List.mem_cons.mp hp with rfl | hp
      · exact Ne.symm hIC
      · rcases List.mem_append.mp hp with hp | hp
        · rcases List.mem_cons.mp hp with rfl | hp
          · exact Ne.symm hID
          · rw [List.mem_singleton.mp hp]; exact Ne.symm hIa
        · exact ib p (.tail _ hp)
    cases hv : its[j]? with
    | none =>
      refine wpAny_pyNext_list_end hh hi' hl' hv fun h₂ hx₂ => ?_
      have F3 := fr_ext F' hx₂ i0 (Ne.symm iL)
      have N3 : News h₀ L h₂ ((C, oC') :: (([(D, listOf #[] 0), (ax, listOf its k)] : List (Addr × Obj)) ++ base)) := news_ext (fun p hp => N' p (by
        rcases List.mem_cons.mp hp with rfl | hp
        · exact .head _
        · exact .tail _ (.tail _ hp))) hx₂ hIn
      refine ⟨mc', hC'.ns (N3 _ (.head _)).1, fun h'' hs'' => ?_⟩
      have zC := N3 _ (.head _)
      refine h D h'' tk9 (F3.change hs'' zC.2.1 zC.2.2) (fun p hp => ?_) hDlt
      have hp' : p ∈ (([(D, listOf #[] 0), (ax, listOf its k)] : List (Addr × Obj)) ++ base) := by
        rcases List.mem_cons.mp hp with rfl | hp
        · exact .head _
        · exact .tail _ (.tail _ hp)
      obtain ⟨a, b⟩ := N3 p (.tail _ hp')
      exact ⟨(hs''.2 _ (cb p hp')).trans a, b⟩
    | some v =>
      have hjl : j < its.size := (Array.getElem?_eq_some_iff.mp hv).1
      have hPv : P v := hP v (Array.mem_of_getElem? hv)
      refine wpAny_pyNext_list_item hi' hl' hv fun h₂ hi₂ hs₂ => ?_
      obtain ⟨oi2, ei2, ci2⟩ := hi₂
      have F3 := fr_but F' hs₂ i0 (Ne.symm iL)
      have N3 : News h₀ L h₂ ((C, oC') :: (([(I, oi2), (D, listOf #[] 0), (ax, listOf its k)] : List (Addr × Obj)) ++ base)) := fun p hp => by
        have aux : p ∈ (C, oC') :: (([(D, listOf #[] 0), (ax, listOf its k)] : List (Addr × Obj)) ++ base) ∨ p = (I, oi2) := by
          rcases List.mem_cons.mp hp with rfl | hp
          · exact .inl (.head _)
          · rcases List.mem_cons.mp hp with rfl | hp
            · exact .inr rfl
            · exact .inl (.tail _ hp)
        rcases aux with hp | rfl
        · obtain ⟨a, b⟩ := N' p (by
            rcases List.mem_cons.mp hp with rfl | hp
            · exact .head _
            · exact .tail _ (.tail _ hp))
          exact ⟨(hs₂.2 _ (hIn p hp)).trans a, b⟩
        · exact ⟨ei2, iL, i0⟩
      refine wpAny_assign_Name (wpAny_storeName_local (lookup_relabel_local hx) (hC'.ns (N3 _ (.head _)).1) (fun h3 hn3 hs3 => ?_) (by simp [compEnvC, relabel, hkind]))
      obtain ⟨oC3, eC3, hoC3⟩ := LCg.ns_obj hn3
      have F4 := F3.change hs3 cL c0
      have N4 : News h₀ L h3 ((C, oC3) :: (([(I, oi2), (D, listOf #[] 0), (ax, listOf its k)] : List (Addr × Obj)) ++ base)) := fun p hp => by
        rcases List.mem_cons.mp hp with rfl | hp
        · exact ⟨eC3, cL, c0⟩
        · obtain ⟨a, b⟩ := N3 p (.tail _ hp)
          refine ⟨(hs3.2 _ ?_).trans a, b⟩
          rcases List.mem_cons.mp hp with rfl | hp
          · exact hIC
          · exact cb p hp
      refine wpAny_tests_one (wpAny_mono (test v _ C oC3 _ _ hPv (by simp) hoC3 F4 N4 ⟨_, _, rfl⟩) (fun b s' hb => ?_) fun _ _ e => e.elim)
      obtain ⟨rfl, F5, N5, h5, tk5, rfl⟩ := hb
      exact ⟨its.size + 1 - (j + 1), by omega, j + 1, oi2, oC3, _, rfl, hjl, ci2, F5, N5, hoC3, _, _, rfl⟩
  refine codeAny_compStart_list loop ?hl2
  case hl2 =>
    exact wpAny_pyIter_listiter (l := ax) (i := 0) ⟨oi, (hN0 _ (.tail _ (.head _))).1, ci⟩ loop
end
end Mine
end
theorem Mine.fresh64 : True := by
  w_top off
  trivial
section
open PySem PySem.W PyProof.Rows
set_option maxRecDepth 100000
set_option maxHeartbeats 8000000
namespace Mine

section
local macro_rules | `(tactic| walk_at "pyIter ref") => `(tactic| (with_reducible refine Mine.Hold.out ?_))
local macro_rules | `(tactic| walk_at "eval ListComp") => `(tactic| (with_reducible refine Mine.Hold.out ?_))
local macro_rules | `(tactic| walk_at "compareOp NotEq ref ref") => `(tactic| (with_reducible refine Mine.Hold.out ?_))
def IntStr (v : Value) : Prop := (∃ k t, v = .int k t) ∨ ∃ x t, v = .str x t
theorem cells_intStr : ∀ {vs : List Value} {cs : List Cell}, Cells vs cs → ∀ v ∈ vs, IntStr v
  | _, _, .nil, _, h => nomatch h
  | _, _, .int h, v, hv => by
    rcases List.mem_cons.mp hv with rfl | hv
    · exact .inl ⟨_, _, rfl⟩
    · exact cells_intStr h v hv
  | _, _, .str h, v, hv => by
    rcases List.mem_cons.mp hv with rfl | hv
    · exact .inr ⟨_, _, rfl⟩
    · exact cells_intStr h v hv
theorem post10 (w : World) (mean : ExcName → Option Value) (mg mb : Str → Option Value) (fa : Addr) (cdv : Value) (h₀ : Heap) (s : Shared) (base : Heap) (m : Str → Option Value) (news : List (Addr × Obj)) (L : Addr)
   (wa : Addr) (wn : Nat) (tl : Nat → Addr) (tv : Nat → Array Value) (tn code : Nat → Nat) (n : Nat) (n1 n2 : Int)
   (E : Value → Shared → Prop) (Q : Flow → Shared → Prop)
   (K0 : Below callerA base [] h₀) (F : Fr h₀ L s.heap m) (X : (Mine.hd.heap_39 w.params).In h₀) (T : Top Mine.hd.view_39 LO mean mg mb h₀)
   (m1 : m (Str.ofString "walk") = some (.ref wa)) (N : News h₀ L s.heap news)
   (hmw : (wa, listOf (refsOf tl (n + 1)).toArray wn) ∈ news) (hm : ∀ t < n + 1, (tl t, listOf (tv t) (tn t)) ∈ news) (hc : ∀ t < n + 1, Cells (tv t).toList (toldC n1 n2 (code t))) (h2 : 2 ≤ n) (h27 : n ≤ 27)
   (hret : ∀ (h' : Heap) (tk' : Nat) (m' : Str → Option Value), (∀ y, y ≠ Str.ofString "told" → m' y = m y) → Fr h₀ L h' m' → News h₀ L h' news → Q .next { s with heap := h', toks := tk' }) :
   wpH (model PR w) (lawA L fa cdv) (execs ((lawBody.drop 10).take 1) (lawEnv L fa cdv)) Q E s := by
  have kf : Fill PySem.Challenge.rw_wn0026_01 Mine.hd.heap_39 := by (k_fill; exact trivial)
  clear kf
  have hps : ∀ q ∈ [(Str.ofString "walk", Value.ref wa)], m q.1 = some q.2 := by
    intro q hq
    simp only [List.mem_cons, List.not_mem_nil, or_false] at hq
    rcases hq with rfl; assumption
  have F1 := fr_over F _ hps
  have em := over_self (m := m) hps
  simp only [over] at F1 em
  have N1 : News h₀ L s.heap ((wa, listOf (refsOf tl (n + 1)).toArray wn) :: news) := news_cons N hmw
  have hls : (refsOf tl (n + 1)).length = n + 1 := by simp [refsOf]
  clear F
  refine wpH.execs_cons (wpH.For ?_)
  k_steps
  rename Fr _ _ _ _ => F2
  rename News _ _ _ _ => N2
  refine wpAny_pyIter_list (isList_of N2 (.head _)) ?_
  rename Heap => hA
  have F3 : Fr h₀ L hA m := Eq.mp (congrArg (fun g : Str → Option Value => Fr h₀ L _ g) em) F2
  have hq := N2 _ (.head _)
  have Nn : News h₀ L _ news := news_drop N2 (fun p hp => .tail _ (.tail _ hp))
  have hsl : ∀ (i : Nat) (v : Value), (slicePick (refsOf tl (n + 1)).toArray (some 1) (some 3) none)[i]? = some v → ∃ t, t < n + 1 ∧ v = .ref (tl t) := by
    intro i v hv
    rw [show slicePick (refsOf tl (n + 1)).toArray (some 1) (some 3) none = (((refsOf tl (n + 1)).drop 1).take 2).toArray from slicePick_run _ 1 3 (by rw [List.size_toArray, hls]; omega) (by omega)] at hv
    have hmem : v ∈ refsOf tl (n + 1) := List.mem_of_mem_drop (List.mem_of_mem_take (List.mem_of_getElem? (l := ((refsOf tl (n + 1)).drop 1).take 2) (i := i) (by rw [← hv]; simp)))
    obtain ⟨t, ht, rfl⟩ := List.mem_map.mp hmem
    exact ⟨t, List.mem_range.mp ht, rfl⟩
  refine listLoopH (h₀ := h₀) (env := lawEnv L fa cdv) (m := m) (led := news) rfl rfl rfl (F3.push _) (fun p hp => ⟨Heap.get?_push_of_some _ (Nn p hp).1, (Nn p hp).2⟩)
    ⟨_, Heap.get?_push_of_some _ hq.1, rfl, _, rfl⟩ ⟨_, Heap.get?_push_size _ rfl, rfl, rfl⟩ hq.2.2 (next_is_new F3) (Ne.symm hq.2.1) (Nat.ne_of_lt F3.ns.lt) (Nat.ne_of_lt (Heap.lt_size hq.1)) (fun p hp => Nat.ne_of_lt (Heap.lt_size (Nn p hp).1))
    (fun i m₁ led₁ => led₁ = news ∧ ∀ y, y ≠ Str.ofString "told" → m₁ y = m y) ⟨rfl, fun _ _ => rfl⟩ ?step ?done
  case done =>
    rintro m' led' h' tk' ⟨rfl, hm'⟩ _ F5 N5
    refine wpH.up (wpAny_execs_nil ?_)
    exact hret _ _ m' hm' F5 N5
  case step =>
    rintro i v m₁ led₁ h tk olst oit hv ⟨rfl, hm'⟩ _ F5 N5
    obtain ⟨t, ht, rfl⟩ := hsl i v hv
    clear F1 F2 F3 N1 N2 Nn
    refine wpH.step ?_
    have N6 : News h₀ L h ((tl t, listOf (tv t) (tn t)) :: (led₁ ++ [(s.heap.objs.size + 1, olst), (_, oit)])) := news_cons N5 (List.mem_append_left _ (hm t ht))
    clear N5
    k_steps
    refine comp_none (P := IntStr) (m := fun y => if y = Str.ofString "told" then some (Value.ref (tl t)) else m₁ y) (h₀ := h₀) (L := L) (base := led₁ ++ [(s.heap.objs.size + 1, olst), (hA.objs.size, oit)]) (cl := []) rfl ?hclos ?hcell rfl ?hnames ?hx (fun _ => rfl) ?test ?hit (fun D h' tk' F7 N7 lt7 => ?_)
    case hclos => exact rfl
    case hcell => decide
    case hnames => decide
    case hx => decide
    case hit =>
      with_unfolding_all refine ldLoc F5 (by rfl) ?_
      exact ⟨⟨tl t, tv t, tn t, rfl, F5, N6, fun v hv => cells_intStr (hc t ht) v (by simpa using hv)⟩, _, _, rfl⟩
    case test =>
      rintro v s₂ C oC mc nw hP hx hC F8 N8 ⟨h8, tk8, rfl⟩
      clear F5 N6
      rcases hP with ⟨k, t9, rfl⟩ | ⟨x9, t9, rfl⟩
      · k_steps
        all_goals first | assumption | (rename News _ _ _ _ => NT; exact news_drop NT (fun p hp => .tail _ hp))
      · k_steps
        all_goals first | assumption | (rename News _ _ _ _ => NT; exact news_drop NT (fun p hp => .tail _ hp))
    · clear F5 N6
      k_steps
      rename Fr _ _ _ _ => F9
      rename News _ _ _ _ => N9
      refine ne_cells (isList_of N9 (.tail _ (.head _))) (isList_of N9 (.head _)) .nil .nil rfl (by have := lawU L fa cdv; omega) ?_
      rw [cellsEq_self]
      k_steps
      rename Fr _ _ _ _ => F9
      rename News _ _ _ _ => N9
      refine ⟨rfl, wpH.up (wpAny_execs_nil ⟨rfl, _, led₁, _, _, rfl, F9, news_drop N9 (fun p hp => .tail _ (.tail _ hp)), rfl, rfl, fun y hy => ?_⟩)⟩
      simp only [if_neg hy]
      exact hm' y hy
end
end Mine
end
theorem Mine.fresh65 : True := by
  w_top off
  trivial
section
open PySem PySem.W PyProof.Rows
set_option maxRecDepth 100000
set_option maxHeartbeats 8000000
namespace Mine

theorem tellsF_use {w : World} {f : Addr} {news : List (Addr × Obj)} {vs : List Value} {Post : List (Addr × Obj) → Value → Prop} (C : TellsF w f news vs Post) {mean : ExcName → Option Value} {mg mb : Str → Option Value} {dp un : Nat} {gd : Option (List Code)} {cn : Str} {cs : Scope} {a : Addr} {ccd : Value} {cl : List (Str × Addr)} {outer : List Env} {frs : List (Addr × Obj)}
    {h₀ : Heap} {L : Addr} {m : Str → Option Value} {s : Shared} {Q E : Value → Shared → Prop}
   (Fs : TI.Frs outer frs) (F : Fr h₀ L s.heap m) (X : (Mine.hd.heap_39 w.params).In h₀) (N : News h₀ L s.heap (news ++ frs)) (T : Top Mine.hd.view_39 LO mean mg mb h₀) (hk : cs.kind = .function)
   (hd : dp + 2 < recursionLimit) (hu : un + 40 < cLine) (hap : ∀ p ∈ news, p.1 ∉ frs.map (·.1))
   (hret : ∀ v h' tk' new frs', Fr h₀ L h' m → TI.SameUp frs frs' → TI.Frs outer frs' → News h₀ L h' (new ++ (news ++ frs')) → (∀ q ∈ news ++ frs, ∀ p ∈ new, q.1 < p.1) → Post new v → Q v { s with heap := h', toks := tk' }) :
   wpAny (model PySem.Challenge.rw_wn0026_01.row.prog w) (ktrTop dp un gd cn cs L a ccd cl outer) (call (.ref f) vs) Q E s :=
  C _ _ _ _ _ _ _ _ _ _ _ _ _ _ _ _ _ _ _ Fs F X N T hk hd hu hap hret
theorem apart_up {news frs frs' : List (Addr × Obj)} (h : ∀ p ∈ news, p.1 ∉ frs.map (·.1)) (SU : TI.SameUp frs frs') : ∀ p ∈ news, p.1 ∉ frs'.map (·.1) := fun p hp => by rw [sameUp_map SU]; exact h p hp
def TellsF2 (w : World) (f : Addr) (news : List (Addr × Obj)) (vs : List Value) (Post : List (Addr × Obj) → Value → Prop) : Prop :=
  ∀ (mean : ExcName → Option Value) (mg mb : Str → Option Value) (dp un : Nat) (gd : Option (List Code)) (cn : Str) (cs : Scope) (a : Addr) (ccd : Value) (cl : List (Str × Addr)) (outer : List Env) (frs : List (Addr × Obj))
    (h₀ : Heap) (L : Addr) (m : Str → Option Value) (s : Shared) (Q E : Value → Shared → Prop),
   TI.Frs outer frs → Fr h₀ L s.heap m → (Mine.hd.heap_39 w.params).In h₀ → News h₀ L s.heap (news ++ frs) → Top Mine.hd.view_39 LO mean mg mb h₀ → cs.kind = .function →
   dp + 4 < recursionLimit → un + 60 < cLine → (∀ p ∈ news, p.1 ∉ frs.map (·.1)) →
   (∀ v h' tk' new frs', Fr h₀ L h' m → TI.SameUp frs frs' → TI.Frs outer frs' → News h₀ L h' (new ++ (news ++ frs')) → (∀ q ∈ news ++ frs, ∀ p ∈ new, q.1 < p.1) → Post new v → Q v { s with heap := h', toks := tk' }) →
   wpAny (model PySem.Challenge.rw_wn0026_01.row.prog w) (ktrTop dp un gd cn cs L a ccd cl outer) (call (.ref f) vs) Q E s
structure Boxed (P : Prop) : Prop where
  out : P
section
local macro_rules | `(tactic| walk_at "call ref") => `(tactic| (with_reducible refine Mine.Hold.out ?_))
local macro_rules | `(tactic| walk_at "newList") => `(tactic| ((rename Fr _ _ _ _ => F'); (rename News _ _ _ _ => N'); refine newList_K F' N' ?_ (Nat.le_of_ble_eq_true rfl); intro _ _ _ _ _))
local macro_rules | `(tactic| walk_at "storeName") => `(tactic| (refine stN (by assumption) (by assumption) ?_; intro _ _ _))
local macro_rules | `(tactic| walk_at "compareOp NotEq ref ref") => `(tactic| (with_reducible refine Mine.Hold.out ?_))
local macro_rules | `(tactic| walk_at "compareOp Eq ref ref") => `(tactic| (with_reducible refine Mine.Hold.out ?_))
theorem c_other (w : World) (news) (k : Nat) (t1 : Tok) (hk100 : k < 100) :
   TellsF2 w 108 news [.int ((k : Nat) : Int) t1] (fun new v => new = [] ∧ v = .bool true) := by
  obtain ⟨_, _, _, b4, b5, b6, b7⟩ := f2 k hk100
  unfold TellsF2
  intro mean mg mb dp un gd cn cs a ccd cl outer frs h₀ L m s Q E Fs F X N T hk hd hu hap hret
  refine wpAny_call ?_
  have kf : Fill PySem.Challenge.rw_wn0026_01 Mine.hd.heap_39 := by (k_fill; exact trivial)
  clear kf
  k_dflt (refine' codeF_def ?k2 ?k3 ?k4 ?k5 ?kA ?kS ?kF ?kK ?kQ ?k6 ?k7 ?k8 ?k9 ?kB ?_ ?c2 ?c3 ?c4 ?c5; (case kA => exact rfl); (case kF => exact rfl); (case kK => assumption); (case k2 => k_asm); (case k3 => k_asm); (case k4 => exact N); (case k5 => k_asm); (case kS => exact Fs); (case kQ => exact hap); (case k6 => k_is); (case k7 => k_is); (case k8 => ktr_room); (case k9 => exact BindsTo.of_eq rfl); (case c5 => decide); (case kB => exact locs rfl); (case c2 => exact rfl); (case c3 => exact rfl); (case c4 => exact rfl); k_whole)
  intro oL L' h' AT
  have F' := AT.hfr
  have N' := AT.hnews
  (try dsimp only)
  (try k_fold)
  have hdd : dp + 1 + 2 < recursionLimit := by omega
  have huu : un + 3 + 40 < cLine := by omega
  have M1 := Boxed.mk (fun t => n1 w news k hk100 t)
  have M2 := Boxed.mk (fun t u => n2 w news k hk100 t u)
  have M3 := Boxed.mk (fun t u => n3 w news k hk100 t u)
  have M4 := Boxed.mk (fun t u => n4 w news k hk100 t u)
  have M5 := Boxed.mk (fun t u => n5 w news k hk100 t u)
  k_steps
  unfold nS at M1 M2 M3 M4 M5 b4 b5 b6 b7
  generalize Str.ofString (toString ((k : Nat) : Int)) = p at *
  rename Fr _ _ _ _ => Fa
  rename News _ _ _ _ => Na
  refine tellsF_use (M1.out _) AT.hfrs Fa X Na T rfl hdd huu AT.apart ?_
  rintro v6 h6 tk6 new6 frs6 F6 SU6 Fs6 N6 hlt6 ⟨rfl, t6, rfl⟩
  rw [List.nil_append] at N6
  clear Fa Na hlt6
  k_steps
  refine tellsF_use (M2.out _ _) Fs6 F6 X N6 T rfl hdd huu (apart_up AT.apart SU6) ?_
  rintro v7 h7 tk7 new7 frs7 F7 SU7 Fs7 N7 hlt7 ⟨rfl, t7, rfl⟩
  rw [List.nil_append] at N7
  replace SU7 := SU6.trans SU7
  clear F6 N6 Fs6 SU6 hlt7
  k_steps
  refine tellsF_use (M3.out _ _) Fs7 F7 X N7 T rfl hdd huu (apart_up AT.apart SU7) ?_
  rintro v8 h8 tk8 new8 frs8 F8 SU8 Fs8 N8 hlt8 ⟨rfl, t8, rfl⟩
  rw [List.nil_append] at N8
  replace SU8 := SU7.trans SU8
  clear F7 N7 Fs7 SU7 hlt8
  k_steps
  rename Fr _ _ _ _ => F9
  rename News _ _ _ _ => N9
  refine ne_cells (isList_of N9 (.tail _ (.head _))) (isList_of N9 (.head _)) (.str (.str (.str .nil))) (.str (.str (.str .nil))) rfl ?u1 ?_
  case u1 => show un + 3 < cLine; omega
  rw [cellsEq_self]
  k_steps
  rename Fr _ _ _ _ => F9
  rename News _ _ _ _ => N9
  have Nb : News h₀ L' _ (news ++ frs8) := news_drop N9 (fun p hp => .tail _ (.tail _ hp))
  clear N9
  refine tellsF_use (M4.out _ _) Fs8 F9 X Nb T rfl hdd huu (apart_up AT.apart SU8) ?_
  rintro v6 h6 tk6 new6 frs6 F6 SU6 Fs6 N6 hlt6 ⟨rfl, t6, rfl⟩
  rw [List.nil_append] at N6
  replace SU6 := SU8.trans SU6
  clear F9 Nb Fs8 SU8 hlt6
  k_steps
  refine tellsF_use (M5.out _ _) Fs6 F6 X N6 T rfl hdd huu (apart_up AT.apart SU6) ?_
  rintro v7 h7 tk7 new7 frs7 F7 SU7 Fs7 N7 hlt7 ⟨rfl, t7, rfl⟩
  rw [List.nil_append] at N7
  replace SU7 := SU6.trans SU7
  clear F6 N6 Fs6 SU6 hlt7
  k_steps
  rename Fr _ _ _ _ => F9
  rename News _ _ _ _ => N9
  refine eq_cells (isList_of N9 (.tail _ (.head _))) (isList_of N9 (.head _)) (.str (.str .nil)) (.str (.str .nil)) rfl ?u2 ?_
  case u2 => show un + 3 < cLine; omega
  rw [cellsEq_self]
  rename Heap => h11
  obtain ⟨frs', Fh, SUh, Fsh, Nh, hlt⟩ := AT.home (s' := { s with heap := h11, toks := 0 }) (new := []) F9 SU7 (fun p hp => N9 p (.tail _ (.tail _ hp))) (fun _ _ _ h => nomatch h)
  exact hret _ _ _ [] frs' Fh SUh Fsh Nh (fun _ _ _ h => nomatch h) ⟨rfl, rfl⟩
end
end Mine
end
theorem Mine.fresh66 : True := by
  w_top off
  trivial
section
open PySem PySem.W PyProof.Rows
set_option maxRecDepth 100000
set_option maxHeartbeats 8000000
namespace Mine

section
local macro_rules | `(tactic| walk_at "call ref") => `(tactic| (with_reducible refine Mine.Hold.out ?_))
local macro_rules | `(tactic| walk_at "eval ListComp") => `(tactic| (with_reducible refine Mine.Hold.out ?_))
local macro_rules | `(tactic| walk_at "compareOp NotEq ref ref") => `(tactic| (with_reducible refine Mine.Hold.out ?_))
theorem useF2 {w : World} {f : Addr} {news : List (Addr × Obj)} {vs : List Value} {Post : List (Addr × Obj) → Value → Prop} {mean : ExcName → Option Value} {mg mb : Str → Option Value} {fa : Addr} {cdv : Value} {h₀ : Heap} {L : Addr} {m : Str → Option Value} {s : Shared} {Q E : Value → Shared → Prop}
   (C : TellsF2 w f news vs Post) (F : Fr h₀ L s.heap m) (X : (Mine.hd.heap_39 w.params).In h₀) (N : News h₀ L s.heap news) (T : Top Mine.hd.view_39 LO mean mg mb h₀)
   (hret : ∀ v h' tk' new, Fr h₀ L h' m → News h₀ L h' (new ++ news) → (∀ q ∈ news, ∀ p ∈ new, q.1 < p.1) → Post new v → Q v { s with heap := h', toks := tk' }) :
   wpAny (model PR w) (lawA L fa cdv) (call (.ref f) vs) Q E s :=
  C mean mg mb _ _ _ _ lawScope _ _ _ [] [] h₀ L m s Q E trivial F X (by rw [List.append_nil]; exact N) T lawKind (by decide) (by decide) (fun _ _ h => nomatch h)
    (fun v h' tk' new frs' F' SU _ N' hl hP => by
      cases frs' with
      | nil => rw [List.append_nil] at N'; exact hret v h' tk' new F' N' (fun q hq => hl q (by rw [List.append_nil]; exact hq)) hP
      | cons _ _ => exact False.elim SU)
def Num100 (v : Value) : Prop := ∃ (k : Nat) (t : Tok), k < 100 ∧ v = .int ((k : Nat) : Int) t
theorem post11 (w : World) (mean : ExcName → Option Value) (mg mb : Str → Option Value) (fa : Addr) (cdv : Value) (h₀ : Heap) (s : Shared) (m : Str → Option Value) (news : List (Addr × Obj)) (L : Addr)
   (na : Addr) (nvs : List Value) (oN : Obj)
   (E : Value → Shared → Prop) (Q : Flow → Shared → Prop)
   (F : Fr h₀ L s.heap m) (X : (Mine.hd.heap_39 w.params).In h₀) (T : Top Mine.hd.view_39 LO mean mg mb h₀) (N : News h₀ L s.heap news) (hmN : (L + 1, oN) ∈ news) (dN : oN.data = Data.cell (some (.ref na))) (hmn : (na, listOf nvs.toArray 0) ∈ news) (hnl : nvs.length = 3) (hnb : ∀ v ∈ nvs, Num100 v)
   (hret : ∀ (h' : Heap) (tk' : Nat), Fr h₀ L h' m → News h₀ L h' news → Q .next { s with heap := h', toks := tk' }) :
   wpAny (model PR w) (lawA L fa cdv) (execs ((lawBody.drop 11).take 1) (lawEnv L fa cdv)) Q E s := by
  have kf : Fill PySem.Challenge.rw_wn0026_01 Mine.hd.heap_39 := by (k_fill; exact trivial)
  clear kf
  have N1 : News h₀ L s.heap ((L + 1, oN) :: (na, listOf nvs.toArray 0) :: news) := news_cons (news_cons N hmn) (.tail _ hmN)
  k_steps
  refine comp_none (P := Num100) (h₀ := h₀) (L := L) (m := m) (base := (L + 1, oN) :: (na, listOf nvs.toArray 0) :: news) (cl := []) rfl ?hclos ?hcell rfl ?hnames ?hx (fun _ => rfl) ?test ?hit (fun D h' tk' F7 N7 lt7 => ?_)
  case hclos => exact rfl
  case hcell => decide
  case hnames => decide
  case hx => decide
  case hit =>
    k_steps
    rename Fr _ _ _ _ => F2
    rename News _ _ _ _ => N2
    refine ⟨_, slicePick nvs.toArray (some 1) none none, 0, rfl, F2, N2, fun v hv => hnb v ?_⟩
    rw [show slicePick nvs.toArray (some 1) none none = (nvs.drop 1).toArray from slicePick_from' _ 1] at hv
    exact List.mem_of_mem_tail (by simpa using hv)
  case test =>
    rintro v s₂ C oC mc nw ⟨k, t9, hk, rfl⟩ hx hC F8 N8 ⟨h8, tk8, rfl⟩
    clear F N N1
    k_steps
    refine useF2 (c_other w _ k t9 hk) F8 X N8 T ?_
    rintro v h1 tk1 new F9 N9 lt9 ⟨rfl, rfl⟩
    rw [List.nil_append] at N9
    clear F8 N8 lt9
    k_steps
    all_goals assumption
  · clear N N1
    k_steps
    rename Fr _ _ _ _ => F9
    rename News _ _ _ _ => N9
    refine ne_cells (isList_of N9 (.tail _ (.head _))) (isList_of N9 (.head _)) .nil .nil rfl (by have := lawU L fa cdv; omega) ?_
    rw [cellsEq_self]
    k_steps
    rename Fr _ _ _ _ => F9
    rename News _ _ _ _ => N9
    refine wpAny_execs_nil ?_
    exact hret _ _ F9 (news_drop N9 (fun p hp => .tail _ (.tail _ (.tail _ (.tail _ hp)))))
end
end Mine
end
theorem Mine.fresh67 : True := by
  w_top off
  trivial
section
open PySem PySem.W PyProof.Rows
set_option maxRecDepth 100000
set_option maxHeartbeats 8000000
namespace Mine

section
local macro_rules | `(tactic| walk_at "call ref") => `(tactic| (with_reducible refine Mine.Hold.out ?_))
local macro_rules | `(tactic| walk_at "CompSrc") => `(tactic| (with_reducible refine Mine.Hold.out ?_))
local macro_rules | `(tactic| walk_at "compareOp NotEq ref ref") => `(tactic| (with_reducible refine Mine.Hold.out ?_))
local macro_rules | `(tactic| walk_at "eval ListComp") => `(tactic| (k_here; k_dflt (refine LCg.ListComp_U (F₀ := by k_asm) (by with_unfolding_all rfl) (by decide) (by rfl) (by decide) (by rfl) ?_)))
local macro_rules | `(tactic| walk_at "newList") => `(tactic| ((rename Fr _ _ _ _ => F'); (rename News _ _ _ _ => N'); refine newList_K F' N' ?_ (Nat.le_of_ble_eq_true rfl); intro _ _ _ _ _))
theorem app_nil (x : Str) : x ++ Str.ofString "" = x := by
  apply PySem.Str.ext'
  show x.cps ++ (Str.ofString "").cps = x.cps
  rw [show (Str.ofString "").cps = #[] by decide +kernel, Array.append_empty]
theorem lenE : (Str.ofString "").length < 1000 := by decide
theorem post12 (w : World) (mean : ExcName → Option Value) (mg mb : Str → Option Value) (fa : Addr) (cdv : Value) (h₀ : Heap) (s : Shared) (base : Heap) (m : Str → Option Value) (news : List (Addr × Obj)) (L : Addr)
   (oW : Obj) (win : Str) (tw : Tok)
   (E : Value → Shared → Prop) (Q : Flow → Shared → Prop)
   (K0 : Below callerA base [] h₀) (F : Fr h₀ L s.heap m) (X : (Mine.hd.heap_39 w.params).In h₀) (T : Top Mine.hd.view_39 LO mean mg mb h₀) (N : News h₀ L s.heap news) (hmW : (L + 1 + 1 + 1, oW) ∈ news) (dW : oW.data = Data.cell (some (.str win tw))) (hwl : win.length < 50)
   (hret : ∀ (h' : Heap) (tk' : Nat), Fr h₀ L h' m → News h₀ L h' news → Q .next { s with heap := h', toks := tk' }) :
   wpAny (model PR w) (lawA L fa cdv) (execs ((lawBody.drop 12).take 1) (lawEnv L fa cdv)) Q E s := by
  have kf : Fill PySem.Challenge.rw_wn0026_01 Mine.hd.heap_39 := by (k_fill; exact trivial)
  clear kf
  have N1 : News h₀ L s.heap ((L + 1 + 1 + 1, oW) :: news) := news_cons N hmW
  k_steps
  rename Fr _ _ _ _ => F2
  rename News _ _ _ _ => N2
  rename Addr => l2
  refine LCg.CompSrc.ledger (by rfl) F2 N2 (.head _) (Nat.le_of_ble_eq_true rfl) ?_
  intro g2
  refine comp_inv (fun i ys nw => nw = (l2, listOf #[.none, .str (Str.ofString "") s.toks] 0) :: (L + 1 + 1 + 1, oW) :: news ∧ ∃ ts : Nat → Tok, ys = strsOf (fun k => if k = 0 then win else win ++ Str.ofString "." ++ Str.ofString "") ts i) ?turn ?fin ?zero
  case zero => exact ⟨rfl, fun _ => 0, rfl⟩
  case turn =>
    rintro i v ys nw Ia oI C oC D m2 h tk E' hi hv ⟨rfl, ts, rfl⟩ hC hx F3 N3 off ne
    have hi' : i = 0 ∨ i = 1 := by
      have : i < 2 := hi
      omega
    have fin : ∀ (h4 : Heap) (tk4 : Nat) (t4 : Tok), Fr h₀ L h4 m → News h₀ L h4 ((Ia, oI) :: (C, oC) :: (D, LCg.lst (strsOf (fun k => if k = 0 then win else win ++ Str.ofString "." ++ Str.ofString "") ts i)) :: (l2, listOf #[.none, .str (Str.ofString "") s.toks] 0) :: (L + 1 + 1 + 1, oW) :: news) →
       LCg.CompEnd h₀ L m { s with heap := h, toks := tk } Ia oI C oC D (LCg.lst (strsOf (fun k => if k = 0 then win else win ++ Str.ofString "." ++ Str.ofString "") ts i)) (LCg.SrcAt h₀ l2 #[.none, .str (Str.ofString "") s.toks]) (fun y nw' => nw' = (l2, listOf #[.none, .str (Str.ofString "") s.toks] 0) :: (L + 1 + 1 + 1, oW) :: news ∧ ∃ ts', strsOf (fun k => if k = 0 then win else win ++ Str.ofString "." ++ Str.ofString "") ts i ++ [y] = strsOf (fun k => if k = 0 then win else win ++ Str.ofString "." ++ Str.ofString "") ts' (i + 1)) (.str (if i = 0 then win else win ++ Str.ofString "." ++ Str.ofString "") t4) { s with heap := h4, toks := tk4 } := by
      intro h4 tk4 t4 F4 N4
      refine LCg.CompEnd.intro F4 N4 _ (fun p hp => hp) off (.inr ⟨_, .head _, rfl, _, rfl⟩) ⟨rfl, fun j => if j = i then t4 else ts j, ?_⟩
      exact strsOf_snoc (fun k => if k = 0 then win else win ++ Str.ofString "." ++ Str.ofString "") ts t4 i
    clear F2 N2
    rcases hi' with rfl | rfl
    · obtain rfl : Value.none = v := Option.some.inj hv
      k_steps
      rename Fr _ _ _ _ => F8
      rename News _ _ _ _ => N8
      refine useT (c_build w _ _ (some (win, tw)) none 0 (.head _) (fun q h => by cases h; exact (show win.length < 1000 by omega)) (fun q h => nomatch h)) K0 F8 X N8 T ?_
      rintro v4 h4 tk4 new4 F4 N4 lt4 ⟨rfl, t4, rfl⟩
      exact fin _ _ t4 F4 (fun p hp => N4 p (.tail _ hp))
    · obtain rfl : Value.str (Str.ofString "") s.toks = v := Option.some.inj hv
      k_steps
      rename Fr _ _ _ _ => F8
      rename News _ _ _ _ => N8
      refine useT (c_build w _ _ (some (win, tw)) (some (Str.ofString "", s.toks)) 0 (.head _) (fun q h => by cases h; exact (show win.length < 1000 by omega)) (fun q h => by cases h; exact lenE)) K0 F8 X N8 T ?_
      rintro v4 h4 tk4 new4 F4 N4 lt4 ⟨rfl, t4, rfl⟩
      exact fin _ _ t4 F4 (fun p hp => N4 p (.tail _ hp))
  case fin =>
    rintro ys nw ⟨rfl, ts, rfl⟩
    intro D3 h3 tk3 F5 N5 O5
    k_steps
    rename Fr _ _ _ _ => F8
    rename News _ _ _ _ => N8
    refine ne_cells (cs := [.S win, .S (win ++ Str.ofString ".")]) (ds := [.S win, .S (win ++ Str.ofString ".")]) (xs := #[.str win (ts 0), .str (win ++ Str.ofString ".") (ts 1)]) ?hl (isList_of N8 (.head _)) (.str (.str .nil)) (.str (.str .nil)) rfl (by have := lawU L fa cdv; omega) ?_
    case hl =>
      have e : strsOf (fun k => if k = 0 then win else win ++ Str.ofString "." ++ Str.ofString "") ts 2 = [.str win (ts 0), .str (win ++ Str.ofString ".") (ts 1)] := by
        have e2 := app_nil (win ++ Str.ofString ".")
        show [Value.str win (ts 0), Value.str (win ++ Str.ofString "." ++ Str.ofString "") (ts 1)] = _
        rw [e2]
      have := (N8 _ (.tail _ (.head _))).1
      refine ⟨_, this, rfl, 2, ?_⟩
      show Data.seq (strsOf (fun k => if k = 0 then win else win ++ Str.ofString "." ++ Str.ofString "") ts 2).toArray (strsOf (fun k => if k = 0 then win else win ++ Str.ofString "." ++ Str.ofString "") ts 2).length = _
      rw [e]; rfl
    rw [cellsEq_self]
    k_steps
    rename Fr _ _ _ _ => F9
    rename News _ _ _ _ => N9
    refine wpAny_execs_nil ?_
    exact hret _ _ F9 (news_drop N9 (fun p hp => .tail _ (.tail _ (.tail _ (.tail _ hp)))))
end
end Mine
end
theorem Mine.fresh68 : True := by
  w_top off
  trivial
section
open PySem PySem.W PyProof.Rows
set_option maxRecDepth 100000
set_option maxHeartbeats 8000000
namespace Mine

open PySem.Calls Nst
section
variable {prog : Program} {w : World} {A : Around} {E : Value → Shared → Prop} {R : Result → Shared → Prop} {s : Shared} {h₀ : Heap} {L C D sa : Addr} {m : Str → Option Value} {base : List (Addr × Obj)} {n1 n2 : Int} {sg : Nat → Addr} {sv : Nat → Array Value}
  {x1 x2 x3 : Str} {p1 p2 p3 q1 q2 q3 q4 q5 : Pos} {i1 i2 i3 : Expr} {scope : Scope} {pos : Pos} {cl : List (Str × Addr)} {env : Env}
abbrev EL (x1 x2 x3 : Str) (q1 q2 q3 q4 q5 : Pos) : Expr := .BinOp (.BinOp (.Name x1 q1) .Add (.Name x2 q2) q3) .Add (.Name x3 q4) q5
theorem start {elt : Expr} {d : Nat} {it : Addr} {k : Nat} {acc : Value} {env : Env} (hd : d < 3) (hi : s.heap.IsListIter it sa k)
    (h0 : codeAny (model prog w) A (.compLoop (E3 elt x1 x2 x3 p1 p2 p3 i1 i2 i3 scope pos) d (.ref it) acc env) R s) :
    codeAny (model prog w) A (.compStart (E3 elt x1 x2 x3 p1 p2 p3 i1 i2 i3 scope pos) d (.ref it) acc env) R s := by
  refine codeAny_of_tree ?_
  show wpAny _ _ ((compStart (E3 elt x1 x2 x3 p1 p2 p3 i1 i2 i3 scope pos) d (.ref it) acc env).onRaise (fun x => do noteFrame x env; standAt theWindowsPlace)) _ _ s
  refine wpAny_notedAt ?_
  have hd' : d = 0 ∨ d = 1 ∨ d = 2 := by omega
  rcases hd' with rfl | rfl | rfl
  all_goals
    unfold compStart
    show wpAny _ _ (ask >>= _) _ _ s
    refine wpAny_bind (wpAny_askSetting (wpAny_ite ?_))
    split
    · first
        | exact wpAny_bind (wpAny_pure (wpAny_pure (And.intro rfl h0)))
        | exact wpAny_pure (And.intro rfl h0)
    · refine wpAny_bind (wpAny_rule ?_)
      show wpAny _ _ (standAt _ >>= _) _ _ s
      exact wpAny_bind (wpAny_standAt (wpAny_bind (wpAny_pyIter_listiter hi (wpAny_pure (And.intro rfl h0)))))
/-- The names of the block are its own. -/
structure Own (scope : Scope) (cl : List (Str × Addr)) (env : Env) (x1 x2 x3 : Str) : Prop where
  hk : ∀ C, (compEnvC scope cl C env).scope.kind = .function
  l1 : ∀ C, (compEnvC scope cl C env).kindOf x1 = some .local
  l2 : ∀ C, (compEnvC scope cl C env).kindOf x2 = some .local
  l3 : ∀ C, (compEnvC scope cl C env).kindOf x3 = some .local
  d1 : (x1 == ("__debug__" : Str)) = false
  d2 : (x2 == ("__debug__" : Str)) = false
  d3 : (x3 == ("__debug__" : Str)) = false
  e12 : x1 ≠ x2
  e13 : x1 ≠ x3
  e23 : x2 ≠ x3
theorem items_get (sg : Nat → Addr) {j : Nat} {v : Value} (h : (#[Value.ref (sg 0), .ref (sg 1), .ref (sg 2)] : Array Value)[j]? = some v) : j < 3 ∧ v = .ref (sg j) := by
  have hj : j < 3 := (Array.getElem?_eq_some_iff.mp h).1
  have hj' : j = 0 ∨ j = 1 ∨ j = 2 := by omega
  rcases hj' with rfl | rfl | rfl <;> exact ⟨hj, (Option.some.inj h).symm⟩
/-- A name of the block's own, and the iterators stand. -/
theorem NJ.store {k i : Nat} {mc : Str → Option Value} {x : Str} {p : Pos} {v : Value} {it : Addr} {Qk : Fin → Shared → Prop} {Ek : Value → Shared → Prop} {K : Sem Fin} {l : Addr} (G : Gd h₀ L C D sa base sg sv n1 n2) (J : NJ h₀ L C D m base n1 n2 k mc s.heap) (hk : (compEnvC scope cl C env).scope.kind = .function) (hl : (compEnvC scope cl C env).kindOf x = some .local)
    (hi : s.heap.IsListIter it l i) (iC : it ≠ C)
    (h : ∀ h' tk', NJ h₀ L C D m base n1 n2 k (fun y => if y = x then some v else mc y) h' → h'.IsListIter it l i → (∀ b o, b ≠ C → s.heap.get? b = some o → h'.get? b = some o) → wpAny (model prog w) A K Qk Ek { s with heap := h', toks := tk' }) :
    wpAny (model prog w) A (assign (.Name x p) (compEnvC scope cl C env) v >>= fun _ => K) Qk Ek s := by
  refine wpAny_bind (wpAny_assign_Name (wpAny_storeName_local hl J.ns (fun h' hn hs => ?_) (by rw [hk]; rfl)))
  refine h h' _ (NJ.set (G := G) J hn hs) ?_ (fun b o hb e => (hs.2 b hb).trans e)
  obtain ⟨o, e, r⟩ := hi
  exact ⟨o, (hs.2 it iC).trans e, r⟩
theorem lvl3 {k a b : Nat} {mc : Str → Option Value} {it : Addr} (O : Own scope cl env x1 x2 x3) (hh : A.handled = none) (G : Gd h₀ L C D sa base sg sv n1 n2) (J : NJ h₀ L C D m base n1 n2 (9 * a + 3 * b) mc s.heap) (ha : a < 3) (hb : b < 3)
    (o1 : mc x1 = some (.ref (sg a))) (o2 : mc x2 = some (.ref (sg b))) (hi : s.heap.IsListIter it sa 0) (i0 : h₀.get? it = none) (iL : it ≠ L) (iC : it ≠ C) (iD : it ≠ D) (ib : ∀ p ∈ base, p.1 ≠ it)
    (done : ∀ s' mc', NJ h₀ L C D m base n1 n2 (9 * a + 3 * b + 3) mc' s'.heap → mc' x1 = some (.ref (sg a)) → mc' x2 = some (.ref (sg b)) → (∃ h tk, s' = { s with heap := h, toks := tk }) → R (.ok .next) s') :
    codeAny (model prog w) A (.compStart (E3 (EL x1 x2 x3 q1 q2 q3 q4 q5) x1 x2 x3 p1 p2 p3 i1 i2 i3 scope pos) 2 (.ref it) (.ref D) (compEnvC scope cl C env)) R s := by
  refine start (by omega) hi ?_
  refine lvl (items := #[.ref (sg 0), .ref (sg 1), .ref (sg 2)]) hh (turn_2 (.ref it)) hi (fun j h => ∃ mc, mc x1 = some (.ref (sg a)) ∧ mc x2 = some (.ref (sg b)) ∧ NJ h₀ L C D m base n1 n2 (9 * a + 3 * b + j) mc h) ?_ ?_ ?_ ⟨mc, o1, o2, J⟩ ?_
  · rintro j h ⟨mc, _, _, J⟩
    exact NJ.signs (G := G) J
  · rintro j h h' ⟨mc, e1, e2, J⟩ hk hx
    exact ⟨mc, e1, e2, J.ext (i := 0) hk hx i0 (Ne.symm iL) (Ne.symm iC) (Ne.symm iD) ib⟩
  · rintro j v s₁ k Qk Ek hv ⟨mc, e1, e2, J⟩ hi₁ ⟨h9, tk9, rfl⟩ hn
    obtain ⟨hj, rfl⟩ := items_get sg hv
    refine NJ.store G J (O.hk C) (O.l3 C) hi₁ iC fun h' tk' J' hi' _ => ?_
    obtain ⟨oit, eit, cit⟩ := id hi'
    have J2 := J'.add ⟨_, hi'⟩ eit i0 iL
    refine wpAny_bind ?_
    rw [← bind_assoc]
    refine wpAny_bind (emit (a := a) (b := b) (c := j) (G.add iC iD) J2 (O.hk C) (O.l1 C) (O.l2 C) (O.l3 C) O.d1 O.d2 O.d3 (by rw [if_neg O.e13]; exact e1) (by rw [if_neg O.e23]; exact e2) (by rw [if_pos rfl]) ha hb hj rfl fun s₃ J3 hs₃ => ?_)
    obtain ⟨J4, e4⟩ := J3.drop
    obtain ⟨h5, tk5, rfl⟩ := hs₃
    exact wpAny_pure (hn _ ⟨_, by rw [if_neg O.e13]; exact e1, by rw [if_neg O.e23]; exact e2, J4⟩ ⟨oit, e4, cit⟩ ⟨h5, tk5, rfl⟩)
  · rintro s' ⟨mc', e1, e2, J⟩ hs
    exact done s' mc' J e1 e2 hs
theorem NJ.push {k : Nat} {mc : Str → Option Value} {h : Heap} (o : Obj) (J : NJ h₀ L C D m base n1 n2 k mc h) : NJ h₀ L C D m base n1 n2 k mc (h.push o) := by
  obtain ⟨rs, rv, oC, F, N, X⟩ := J
  exact ⟨rs, rv, oC, F.push o, fun p hp => ⟨Heap.get?_push_of_some _ (N p hp).1, (N p hp).2⟩, X⟩
theorem NJ.fresh {k : Nat} {mc : Str → Option Value} {h : Heap} (J : NJ h₀ L C D m base n1 n2 k mc h) : h₀.get? h.objs.size = none ∧ h.objs.size ≠ L ∧ h.objs.size ≠ C ∧ h.objs.size ≠ D ∧ ∀ p ∈ base, p.1 ≠ h.objs.size := by
  obtain ⟨rs, rv, oC, F, N, X⟩ := J
  exact ⟨next_is_new F, Nat.ne_of_gt F.ns.lt, Nat.ne_of_gt (Heap.lt_size (N _ (.head _)).1), Nat.ne_of_gt (Heap.lt_size (N _ (.tail _ (.head _))).1), fun p hp => Nat.ne_of_lt (Heap.lt_size (N p (.tail _ (.tail _ (List.mem_append_right _ hp)))).1)⟩
/-- Where the inner clauses' list comes from. -/
structure Sgn (base : List (Addr × Obj)) (cl : List (Str × Addr)) (scope : Scope) (env : Env) (sgn : Str) (cS sa : Addr) (oS : Obj) : Prop where
  hc : cl.lookup sgn = some cS
  hm : (cS, oS) ∈ base
  hd : oS.data = .cell (some (.ref sa))
  hx : ∀ C, (compEnvC scope cl C env).kindOf sgn = some .cell
  hb : (sgn == ("__debug__" : Str)) = false
theorem Sgn.add {x : Addr × Obj} {sgn : Str} {cS : Addr} {oS : Obj} (S : Sgn base cl scope env sgn cS sa oS) : Sgn (x :: base) cl scope env sgn cS sa oS := ⟨S.hc, .tail _ S.hm, S.hd, S.hx, S.hb⟩
theorem NJ.into {sgn : Str} {ps : Pos} {cS : Addr} {oS : Obj} {e : Expr} {d k : Nat} {mc : Str → Option Value} {K : Sem Fin} {Qk : Fin → Shared → Prop} {Ek : Value → Shared → Prop} (O : Own scope cl env x1 x2 x3) (G : Gd h₀ L C D sa base sg sv n1 n2) (S : Sgn base cl scope env sgn cS sa oS) (J : NJ h₀ L C D m base n1 n2 k mc s.heap)
    (h : ∀ it h', NJ h₀ L C D m base n1 n2 k mc h' → h'.IsListIter it sa 0 → h₀.get? it = none → it ≠ L → it ≠ C → it ≠ D → (∀ p ∈ base, p.1 ≠ it) → codeAny (model prog w) (A.mark none) (.compStart e d (.ref it) (.ref D) (compEnvC scope cl C env)) (fun r s' => match r with | .ok _ => wpAny (model prog w) A K Qk Ek s' | .error _ => False) { s with heap := h' }) :
    wpAny (model prog w) A (goIn e d (.Name sgn ps) (.ref D) (compEnvC scope cl C env) K) Qk Ek s := by
  have J0 := J
  obtain ⟨rs, rv, oC, F, N, X⟩ := J0
  unfold goIn
  refine wpAny_bind (kcf_cell N S.hc (.tail _ (.tail _ (List.mem_append_right _ S.hm))) S.hd ?_ (O.hk C) (S.hx C) S.hb)
  refine wpAny_bind (wpAny_standAt ?_)
  show wpAny _ _ (pure (Value.ref sa) >>= _) _ _ _
  refine wpAny_bind (wpAny_pure ?_)
  refine wpAny_bind (wpAny_holding (wpAny_pyIter_list (NJ.signs (G := G) J) ?_))
  obtain ⟨a1, a2, a3, a4, a5⟩ := J.fresh
  refine wpAny_bind (wpAny_runOwn (h := none) (codeAny_mono (h s.heap.objs.size _ (J.push _) ⟨_, Heap.get?_push_size _ rfl, rfl, rfl⟩ a1 a2 a3 a4 a5) fun r s' hr => ?_))
  cases r with
  | ok f => exact hr
  | error e => exact hr.elim
theorem lvl2 {k a : Nat} {mc : Str → Option Value} {it : Addr} {sgn : Str} {ps : Pos} {cS : Addr} {oS : Obj} (O : Own scope cl env x1 x2 x3) (hh : A.handled = none) (G : Gd h₀ L C D sa base sg sv n1 n2) (S : Sgn base cl scope env sgn cS sa oS) (J : NJ h₀ L C D m base n1 n2 (9 * a) mc s.heap) (ha : a < 3)
    (o1 : mc x1 = some (.ref (sg a))) (hi : s.heap.IsListIter it sa 0) (i0 : h₀.get? it = none) (iL : it ≠ L) (iC : it ≠ C) (iD : it ≠ D) (ib : ∀ p ∈ base, p.1 ≠ it)
    (done : ∀ s' mc', NJ h₀ L C D m base n1 n2 (9 * a + 9) mc' s'.heap → mc' x1 = some (.ref (sg a)) → (∃ h tk, s' = { s with heap := h, toks := tk }) → R (.ok .next) s') :
    codeAny (model prog w) A (.compStart (E3 (EL x1 x2 x3 q1 q2 q3 q4 q5) x1 x2 x3 p1 p2 p3 i1 i2 (.Name sgn ps) scope pos) 1 (.ref it) (.ref D) (compEnvC scope cl C env)) R s := by
  refine start (by omega) hi ?_
  refine lvl (items := #[.ref (sg 0), .ref (sg 1), .ref (sg 2)]) hh (turn_1 (.ref it)) hi (fun j h => ∃ mc, mc x1 = some (.ref (sg a)) ∧ NJ h₀ L C D m base n1 n2 (9 * a + 3 * j) mc h) ?_ ?_ ?_ ⟨mc, o1, J⟩ ?_
  · rintro j h ⟨mc, _, J⟩
    exact NJ.signs (G := G) J
  · rintro j h h' ⟨mc, e1, J⟩ hk hx
    exact ⟨mc, e1, J.ext (i := 0) hk hx i0 (Ne.symm iL) (Ne.symm iC) (Ne.symm iD) ib⟩
  · rintro j v s₁ k Qk Ek hv ⟨mc, e1, J⟩ hi₁ ⟨h9, tk9, rfl⟩ hn
    obtain ⟨hj, rfl⟩ := items_get sg hv
    refine NJ.store G J (O.hk C) (O.l2 C) hi₁ iC fun h' tk' J' hi' _ => ?_
    obtain ⟨oit, eit, cit⟩ := id hi'
    have J2 := J'.add ⟨_, hi'⟩ eit i0 iL
    have G2 := G.add (oit := oit) iC iD
    refine NJ.into O G2 S.add J2 fun it2 h2 J3 hi2 b1 b2 b3 b4 b5 => ?_
    refine lvl3 (a := a) (b := j) (k := 0) O hh G2 J3 ha hj (by rw [if_neg O.e12]; exact e1) (by rw [if_pos rfl]) hi2 b1 b2 b3 b4 b5 fun s₃ mc' J4 c1 c2 hs₃ => ?_
    obtain ⟨J5, e5⟩ := J4.drop
    obtain ⟨h5, tk5, rfl⟩ := hs₃
    exact hn _ ⟨mc', c1, J5⟩ ⟨oit, e5, cit⟩ ⟨h5, tk5, rfl⟩
  · rintro s' ⟨mc', e1, J⟩ hs
    exact done s' mc' J e1 hs
theorem lvl1 {mc : Str → Option Value} {it : Addr} {sgn : Str} {ps ps' : Pos} {cS : Addr} {oS : Obj} (O : Own scope cl env x1 x2 x3) (hh : A.handled = none) (G : Gd h₀ L C D sa base sg sv n1 n2) (S : Sgn base cl scope env sgn cS sa oS) (J : NJ h₀ L C D m base n1 n2 0 mc s.heap)
    (hi : s.heap.IsListIter it sa 0) (i0 : h₀.get? it = none) (iL : it ≠ L) (iC : it ≠ C) (iD : it ≠ D) (ib : ∀ p ∈ base, p.1 ≠ it)
    (done : ∀ s' mc', NJ h₀ L C D m base n1 n2 27 mc' s'.heap → (∃ h tk, s' = { s with heap := h, toks := tk }) → R (.ok .next) s') :
    codeAny (model prog w) A (.compStart (E3 (EL x1 x2 x3 q1 q2 q3 q4 q5) x1 x2 x3 p1 p2 p3 i1 (.Name sgn ps) (.Name sgn ps') scope pos) 0 (.ref it) (.ref D) (compEnvC scope cl C env)) R s := by
  refine start (by omega) hi ?_
  refine lvl (items := #[.ref (sg 0), .ref (sg 1), .ref (sg 2)]) hh (turn_0 (.ref it)) hi (fun j h => ∃ mc, NJ h₀ L C D m base n1 n2 (9 * j) mc h) ?_ ?_ ?_ ⟨mc, J⟩ ?_
  · rintro j h ⟨mc, J⟩
    exact NJ.signs (G := G) J
  · rintro j h h' ⟨mc, J⟩ hk hx
    exact ⟨mc, J.ext (i := 0) hk hx i0 (Ne.symm iL) (Ne.symm iC) (Ne.symm iD) ib⟩
  · rintro j v s₁ k Qk Ek hv ⟨mc, J⟩ hi₁ ⟨h9, tk9, rfl⟩ hn
    obtain ⟨hj, rfl⟩ := items_get sg hv
    refine NJ.store G J (O.hk C) (O.l1 C) hi₁ iC fun h' tk' J' hi' _ => ?_
    obtain ⟨oit, eit, cit⟩ := id hi'
    have J2 := J'.add ⟨_, hi'⟩ eit i0 iL
    have G2 := G.add (oit := oit) iC iD
    refine NJ.into O G2 S.add J2 fun it2 h2 J3 hi2 b1 b2 b3 b4 b5 => ?_
    refine lvl2 (a := j) (k := 0) O hh G2 S.add J3 hj (by rw [if_pos rfl]) hi2 b1 b2 b3 b4 b5 fun s₃ mc' J4 c1 hs₃ => ?_
    obtain ⟨J5, e5⟩ := J4.drop
    obtain ⟨h5, tk5, rfl⟩ := hs₃
    exact hn _ ⟨mc', J5⟩ ⟨oit, e5, cit⟩ ⟨h5, tk5, rfl⟩
  · rintro s' ⟨mc', J⟩ hs
    exact done s' mc' J hs
end
end Mine
end
theorem Mine.fresh69 : True := by
  w_top off
  trivial
section
open PySem PySem.W PyProof.Rows
set_option maxRecDepth 100000
set_option maxHeartbeats 8000000
namespace Mine

open PySem.Calls Nst
section
variable {prog : Program} {w : World} {A : Around} {E : Value → Shared → Prop} {s : Shared} {h₀ : Heap} {L sa : Addr} {m : Str → Option Value} {base : List (Addr × Obj)} {n1 n2 : Int} {sg : Nat → Addr} {sv : Nat → Array Value}
  {x1 x2 x3 : Str} {p1 p2 p3 q1 q2 q3 q4 q5 : Pos} {scope : Scope} {pos : Pos} {cl : List (Str × Addr)} {env : Env}
theorem comp27 {sgn : Str} {ps ps' ps'' : Pos} {cS : Addr} {oS : Obj} {Q : Value → Shared → Prop} (O : Own scope cl env x1 x2 x3) (hh : A.handled = none) (S : Sgn base cl scope env sgn cS sa oS) (F : Fr h₀ L s.heap m) (N : News h₀ L s.heap base)
    (msa : (sa, listOf #[.ref (sg 0), .ref (sg 1), .ref (sg 2)] 0) ∈ base) (msg : ∀ i < 3, (sg i, listOf (sv i) 0) ∈ base) (cel : ∀ i < 3, Cells (sv i).toList (signC n1 n2 i))
    (hclos : closureFor scope env = pure cl) (hcell : ∀ y ∈ scope.names, y.2 ≠ .cell) (hkind : scope.kind = .function) (hnames : ∀ y ∈ scope.names, y.2 = .local → scope.names.lookup y.1 = some .local)
    (hev : ∀ {Q' : Value → Shared → Prop}, Q' (.ref sa) s → wpAny (model prog w) A (eval (.Name sgn ps) env) Q' E s)
    (h : ∀ D rs rv h' tk', Fr h₀ L h' m → News h₀ L h' ((D, LCg.lst (refsOf rs 27)) :: (mkL rs rv 27 ++ base)) → (∀ j < 27, Cells (rv j).toList (toldC n1 n2 j)) → (∀ p ∈ base, p.1 ≠ D) → (∀ j < 27, ∀ q ∈ base, q.1 ≠ rs j) → Q (.ref D) { s with heap := h', toks := tk' }) :
    wpAny (model prog w) A (eval (E3 (EL x1 x2 x3 q1 q2 q3 q4 q5) x1 x2 x3 p1 p2 p3 (.Name sgn ps) (.Name sgn ps') (.Name sgn ps'') scope pos) env) Q E s := by
  rw [eval_ListComp]
  refine wpAny_comprehension_free (use := none) rfl (fun _ => rfl) hclos hkind hnames ?_
  show wpAny _ _ (eval (.Name sgn ps) env) _ _ _
  refine hev ?_
  refine wpAny_pyIter_list (isList_of N msa) ?_
  have F1 := F.push { cls := .type "list_iterator", data := .fields #[.ref sa, .int 0 0] }
  have N1 : News h₀ L (s.heap.push { cls := .type "list_iterator", data := .fields #[.ref sa, .int 0 0] }) base := fun p hp => ⟨Heap.get?_push_of_some _ (N p hp).1, (N p hp).2⟩
  have hi1 : (s.heap.push { cls := .type "list_iterator", data := .fields #[.ref sa, .int 0 0] }).IsListIter s.heap.objs.size sa 0 := ⟨_, Heap.get?_push_size _ rfl, rfl, rfl⟩
  have i0 : h₀.get? s.heap.objs.size = none := next_is_new F
  have iL : s.heap.objs.size ≠ L := Nat.ne_of_gt F.ns.lt
  have ib : ∀ p ∈ base, p.1 ≠ s.heap.objs.size := fun p hp => Nat.ne_of_lt (Heap.lt_size (N p hp).1)
  have isz : s.heap.objs.size < (s.heap.push { cls := .type "list_iterator", data := .fields #[.ref sa, .int 0 0] }).objs.size := by rw [Heap.size_push]; exact Nat.lt_succ_self _
  generalize s.heap.push { cls := .type "list_iterator", data := .fields #[.ref sa, .int 0 0] } = H1 at F1 N1 hi1 isz ⊢
  refine wpAny_newObj_type (wpAny_newFunctionEnv hcell (by intro y hy; simp at hy) (fun h₁ hns₁ hsb₁ => ?_) hkind)
  dsimp only at hns₁ hsb₁ ⊢
  have F2 := F1.push (LCg.lst [])
  have N2 : News h₀ L (H1.push (LCg.lst [])) ((H1.objs.size, LCg.lst []) :: base) := fun p hp => by
    rcases List.mem_cons.mp hp with rfl | hp
    · exact ⟨Heap.get?_push_size _ rfl, Nat.ne_of_gt F1.ns.lt, next_is_new F1⟩
    · exact ⟨Heap.get?_push_of_some _ (N1 p hp).1, (N1 p hp).2⟩
  have hi2 : (H1.push (LCg.lst [])).IsListIter s.heap.objs.size sa 0 := by
    obtain ⟨o, e, r⟩ := hi1
    exact ⟨o, Heap.get?_push_of_some _ e, r⟩
  have isz2 : s.heap.objs.size < (H1.push (LCg.lst [])).objs.size := by rw [Heap.size_push]; exact Nat.lt_succ_of_lt isz
  have hCD : (H1.push (LCg.lst [])).objs.size ≠ H1.objs.size := by rw [Heap.size_push]; exact Nat.ne_of_gt (Nat.lt_succ_self _)
  show codeAny _ _ _ _ _
  have G : Gd h₀ L (H1.push (LCg.lst [])).objs.size H1.objs.size sa base sg sv n1 n2 := ⟨hCD, fun p hp => ⟨Nat.ne_of_lt (Heap.lt_size (N2 p (.tail _ hp)).1), Nat.ne_of_lt (Heap.lt_size (N1 p hp).1)⟩, msa, msg, cel⟩
  have up : ∀ b o, (H1.push (LCg.lst [])).get? b = some o → h₁.get? b = some o := fun b o e => hsb₁.extBut b o (Nat.ne_of_lt (Heap.lt_size e)) (Heap.get?_push_of_some _ e)
  obtain ⟨oC, eC, hoC⟩ := LCg.ns_obj hns₁
  have J : NJ h₀ L (H1.push (LCg.lst [])).objs.size H1.objs.size m base n1 n2 0 (fun y => List.lookup y ([] : List (Str × Value)).reverse) h₁ := by
    refine ⟨fun _ => 0, fun _ => #[], oC, F2.keeps up, fun p hp => ?_, hoC, fun p hp => absurd hp (by simp [mkL]), fun j hj => absurd hj (Nat.not_lt_zero _)⟩
    rcases List.mem_cons.mp hp with rfl | hp
    · exact ⟨eC, Nat.ne_of_gt F2.ns.lt, next_is_new F2⟩
    · obtain ⟨a, b⟩ := N2 p hp
      exact ⟨up _ _ a, b⟩
  have hi3 : h₁.IsListIter s.heap.objs.size sa 0 := by
    obtain ⟨o, e, r⟩ := hi2
    exact ⟨o, up _ _ e, r⟩
  refine lvl1 (A := A) (sg := sg) (sv := sv) O hh G S J hi3 i0 iL (Nat.ne_of_lt isz2) (Nat.ne_of_lt isz) ib fun s' mc' J' hs' => ?_
  obtain ⟨h9, tk9, rfl⟩ := hs'
  obtain ⟨rs, rv, oC', F', N', hC', hd', hc'⟩ := J'
  have zC := N' _ (.head _)
  refine ⟨mc', hC'.ns zC.1, fun h'' hs'' => h H1.objs.size rs rv h'' tk9 (F'.change hs'' zC.2.1 zC.2.2) (fun p hp => ?_) hc' (fun p hp => (G.off p hp).2) (fun j hj q hq => (hd' (rs j, listOf (rv j) 0) (List.mem_map.mpr ⟨j, List.mem_range.mpr hj, rfl⟩)).2.2 q hq)⟩
  obtain ⟨a, b⟩ := N' p (.tail _ hp)
  refine ⟨(hs''.2 _ ?_).trans a, b⟩
  rcases List.mem_cons.mp hp with rfl | hp
  · exact Ne.symm G.CD
  · rcases List.mem_append.mp hp with hq | hq
    · exact (hd' p hq).1
    · exact (G.off p hq).1
end
end Mine
end
theorem Mine.fresh70 : True := by
  w_top off
  trivial
section
open PySem PySem.W PyProof.Rows
set_option maxRecDepth 100000
set_option maxHeartbeats 8000000
namespace Mine

open PySem.SeqAt PySem.Calls Nst
section
local macro_rules | `(tactic| walk_at "call builtin:sorted") => `(tactic| (with_reducible refine Mine.Hold.out ?_))
local macro_rules | `(tactic| walk_at "eval ListComp") => `(tactic| (with_reducible refine Mine.Hold.out ?_))
local macro_rules | `(tactic| walk_at "compareOp Eq ref ref") => `(tactic| (with_reducible refine Mine.Hold.out ?_))
theorem refs_tail (tl : Nat → Addr) (n : Nat) : (refsOf tl (n + 1)).drop 1 = refsOf (fun t => tl (t + 1)) n := by
  apply List.ext_getElem (by simp [refsOf])
  intro i h1 h2
  simp [refsOf, Nat.add_comm]
theorem asc_id {f : Nat → Nat} {p : Array Nat} (h : Srt.Asc f p 27) (hlt : ∀ i < 27, f (Srt.g p i) < 27) : ∀ j < 27, f (Srt.g p j) = j := by
  have up : ∀ j, j < 27 → j ≤ f (Srt.g p j) := by
    intro j
    induction j with
    | zero => intro _; omega
    | succ j ih =>
      intro hj
      have := ih (by omega)
      have := h j hj
      omega
  have dn : ∀ k, k < 27 → f (Srt.g p (26 - k)) ≤ 26 - k := by
    intro k
    induction k with
    | zero => intro _; have := hlt 26 (by omega); simpa using (by omega : f (Srt.g p 26) ≤ 26)
    | succ k ih =>
      intro hk
      have a := ih (by omega)
      have b := h (26 - (k + 1)) (by omega)
      rw [show 26 - (k + 1) + 1 = 26 - k by omega] at b
      omega
  intro j hj
  have a := up j hj
  have b := dn (26 - j) (by omega)
  rw [show 26 - (26 - j) = j by omega] at b
  omega
theorem eqAt_of {A : Around} {s : Shared} {x y x' y' : Value} {b : Bool} (hx : x = x') (hy : y = y') (h : EqAt A s x' y' b) : EqAt A s x y b := by
  subst hx hy; exact h
theorem post13 (w : World) (mean : ExcName → Option Value) (mg mb : Str → Option Value) (fa : Addr) (cdv : Value) (h₀ : Heap) (s : Shared) (m : Str → Option Value) (news : List (Addr × Obj)) (L : Addr)
   (wa sa : Addr) (wn : Nat) (oS : Obj) (sg : Nat → Addr) (sv : Nat → Array Value) (n1 n2 : Int) (tl : Nat → Addr) (tv : Nat → Array Value) (tn code : Nat → Nat) (n : Nat)
   (E : Value → Shared → Prop) (Q : Flow → Shared → Prop)
   (F : Fr h₀ L s.heap m) (X : (Mine.hd.heap_39 w.params).In h₀) (T : Top Mine.hd.view_39 LO mean mg mb h₀)
   (m1 : m (Str.ofString "walk") = some (.ref wa)) (N : News h₀ L s.heap news) (hmS : (L + 1 + 1, oS) ∈ news) (dS : oS.data = Data.cell (some (.ref sa)))
   (msa : (sa, listOf #[.ref (sg 0), .ref (sg 1), .ref (sg 2)] 0) ∈ news) (msg : ∀ i < 3, (sg i, listOf (sv i) 0) ∈ news) (cel : ∀ i < 3, Cells (sv i).toList (signC n1 n2 i)) (hn12 : n1 < n2)
   (hmw : (wa, listOf (refsOf tl (n + 1)).toArray wn) ∈ news) (hm : ∀ t < n + 1, (tl t, listOf (tv t) (tn t)) ∈ news) (hc : ∀ t < n + 1, Cells (tv t).toList (toldC n1 n2 (code t))) (hlt : ∀ t < n + 1, code t < 27)
   (hinj : ∀ i j, i < n → j < n → code (i + 1) = code (j + 1) → i = j) (h2 : 2 ≤ n) (h27 : n ≤ 27)
   (hret : ∀ (h' : Heap) (tk' : Nat), Fr h₀ L h' (fun y => if y = Str.ofString "shown" then some (.bool (decide (n = 27))) else m y) → News h₀ L h' news → Q .next { s with heap := h', toks := tk' }) :
   wpAny (model PR w) (lawA L fa cdv) (execs ((lawBody.drop 13).take 1) (lawEnv L fa cdv)) Q E s := by
  have kf : Fill PySem.Challenge.rw_wn0026_01 Mine.hd.heap_39 := by (k_fill; exact trivial)
  clear kf
  have hps : ∀ q ∈ [(Str.ofString "walk", Value.ref wa)], m q.1 = some q.2 := by
    intro q hq
    simp only [List.mem_cons, List.not_mem_nil, or_false] at hq
    rcases hq with rfl; assumption
  have F1 := fr_over F _ hps
  have em := over_self (m := m) hps
  simp only [over] at F1 em
  have N1 : News h₀ L s.heap ((wa, listOf (refsOf tl (n + 1)).toArray wn) :: (L + 1 + 1, oS) :: news) := news_cons (news_cons N hmS) (.tail _ hmw)
  have hls : (refsOf tl (n + 1)).length = n + 1 := by simp [refsOf]
  clear F
  k_steps
  rename Fr _ _ _ _ => F2
  rename News _ _ _ _ => N2
  have es : slicePick (refsOf tl (n + 1)).toArray (some 1) none none = (refsOf (fun t => tl (t + 1)) n).toArray := by
    rw [show slicePick (refsOf tl (n + 1)).toArray (some 1) none none = ((refsOf tl (n + 1)).drop 1).toArray from slicePick_from' _ 1, refs_tail]
  refine sorted_told (tl := fun t => tl (t + 1)) (tv := fun t => tv (t + 1)) (tn := fun t => tn (t + 1)) (code := fun t => code (t + 1)) (n := n) hn12 (lawU L fa cdv) F2 N2 ?hl h2 h27 (fun t ht => .tail _ (.tail _ (.tail _ (hm (t + 1) (by omega))))) (fun t ht => hc (t + 1) (by omega)) (fun t ht => hlt (t + 1) (by omega)) hinj (fun D p h1 c F3 N3 lt3 P ha => ?_)
  case hl => rw [← es]; exact isList_of N2 (.head _)
  have hDn : ∀ q ∈ news, q.1 < D := fun q hq => lt3 q (.tail _ (.tail _ (.tail _ hq)))
  have N4 : News h₀ L h1 ((D, listOf (refsOf (fun i => tl (Srt.g p i + 1)) n).toArray c) :: news) := fun q hq => by
    rcases List.mem_cons.mp hq with rfl | hq
    · exact N3 _ (.head _)
    · exact N3 _ (.tail _ (.tail _ (.tail _ (.tail _ hq))))
  clear F2 N2 N3 lt3
  k_steps
  refine comp27 (sg := sg) (sv := sv) (n1 := n1) (n2 := n2) (cS := L + 1 + 1) (oS := oS) (base := (D, listOf (refsOf (fun i => tl (Srt.g p i + 1)) n).toArray c) :: news) (cl := [(Str.ofString "signs", L + 1 + 1)]) ⟨fun _ => rfl, fun _ => rfl, fun _ => rfl, fun _ => rfl, by decide, by decide, by decide, by decide, by decide, by decide⟩ rfl ⟨rfl, .tail _ hmS, dS, fun _ => rfl, by decide⟩ F3 N4 (.tail _ msa) (fun i hi => .tail _ (msg i hi)) cel ?hclos ?hcell rfl ?hnames (fun hq => ldCN N4 rfl (.tail _ hmS) dS hq) (fun D2 rs rv h5 tk5 F5 N5 hcel hD2 hrs => ?_)
  case hclos => exact rfl
  case hcell => decide
  case hnames => decide
  have hDD : D ≠ D2 := hD2 _ (.head _)
  have hl1 : h5.IsList D (refsOf (fun i => tl (Srt.g p i + 1)) n).toArray := isList_of N5 (.tail _ (List.mem_append_right _ (.head _)))
  have hl2 : h5.IsList D2 (refsOf rs 27).toArray := ⟨_, (N5 _ (.head _)).1, rfl, _, rfl⟩
  have N6 : News h₀ L h5 news := fun q hq => N5 q (.tail _ (List.mem_append_right _ (.tail _ hq)))
  have fin : ∀ b : Bool, b = decide (n = 27) → wpAny (model PR w) (lawA L fa cdv) (storeName (lawEnv L fa cdv) (Str.ofString "shown") (.bool b)) (fun x s' => wpAny (model PR w) (lawA L fa cdv) (execs (List.take 0 (lawBody.drop 14)) (lawEnv L fa cdv)) Q E s') E { s with heap := h5, toks := tk5 } := by
    intro b hb
    subst hb
    refine stLocN F5 N6 (fun h7 F7 N7 => ?_)
    refine wpAny_execs_nil ?_
    exact hret _ _ (Eq.mp (congrArg (fun g : Str → Option Value => Fr h₀ L h7 (fun y => if y = Str.ofString "shown" then some (Value.bool (decide (n = 27))) else g y)) em) F7) N7
  have hun : (lawA L fa cdv).units + 9 < cLine := lawU L fa cdv
  by_cases h27' : n = 27
  · subst h27'
    have hid := asc_id ha (fun i hi => hlt (Srt.g p i + 1) (by have := P.lt hi; omega))
    refine eq_listAt (e := fun _ => true) hl1 hl2 (by simp [refsOf]) (by omega) (fun j j1 j2 => ?_) ?_
    · have hj : j < 27 := by simpa [refsOf] using j1
      have g1 : (refsOf (fun i => tl (Srt.g p i + 1)) 27).toArray[j] = .ref (tl (Srt.g p j + 1)) := by simp [refsOf]
      have g2 : (refsOf rs 27).toArray[j] = .ref (rs j) := by simp [refsOf]
      refine eqAt_of g1 g2 ?_
      have hgl := P.lt hj
      have hmm := hm (Srt.g p j + 1) (by omega)
      have hcc := hc (Srt.g p j + 1) (by omega)
      refine EqAt.of_refs (hrs j hj _ (.tail _ hmm)) ?_
      have r := rc_cells (A := (lawA L fa cdv).in1) (s := { s with heap := h5, toks := tk5 }) (isList_of (news := news) N6 hmm) (isList_of (its := rv j) (n := 0) N5 (.tail _ (List.mem_append_left _ (List.mem_map.mpr ⟨j, List.mem_range.mpr hj, rfl⟩)))) hcc (hcel j hj) (by rw [told_len, told_len]) (by show (lawA L fa cdv).units + 1 < cLine; omega)
      rw [hid j hj, cellsEq_self] at r
      exact r
    · have : (List.range (refsOf (fun i => tl (Srt.g p i + 1)) 27).toArray.size).all (fun _ => true) = true := by simp
      rw [this]
      exact fin true (by decide)
  · refine eq_list_lengthsAt hl1 hl2 (by simp [refsOf, h27']) (by omega) ?_
    exact fin false (by simp [h27'])
end
end Mine
end
theorem Mine.fresh71 : True := by
  w_top off
  trivial
section
open PySem PySem.W PyProof.Rows
set_option maxRecDepth 100000
set_option maxHeartbeats 8000000
namespace Mine

section
local macro_rules | `(tactic| walk_at "call ref") => `(tactic| (with_reducible refine Mine.Hold.out ?_))
theorem post14 (w : World) (mean : ExcName → Option Value) (mg mb : Str → Option Value) (fa : Addr) (cdv : Value) (h₀ : Heap) (s : Shared) (base : Heap) (m : Str → Option Value) (news : List (Addr × Obj)) (L : Addr)
   (ea : Addr) (en : Nat) (es : Nat → Addr) (rows : Nat → List Int) (vs : Nat → List Value) (ns : Nat → Nat) (t1 : Tok) (b : Bool)
   (E : Value → Shared → Prop) (Q : Flow → Shared → Prop)
   (K0 : Below callerA base [] h₀) (F : Fr h₀ L s.heap m) (X : (Mine.hd.heap_39 w.params).In h₀) (T : Top Mine.hd.view_39 LO mean mg mb h₀)
   (m1 : m (Str.ofString "place") = some (.int 0 t1)) (m2 : m (Str.ofString "shown") = some (.bool b)) (m3 : m (Str.ofString "exits") = some (.ref ea)) (N : News h₀ L s.heap news)
   (hrow : ∀ i, i < 9 → IntsAre (vs i) (rows i) ∧ (rows i).length = 3 ∧ (∀ x ∈ rows i, 0 ≤ x ∧ x < 3)) (he : (ea, listOf (refsOf es 9).toArray en) ∈ news) (hes : ∀ i < 9, (es i, listOf (vs i).toArray (ns i)) ∈ news) (hb : homeB rows = b)
   (hret : ∀ (h' : Heap) (tk' : Nat), Fr h₀ L h' m → Q (.ret (.bool true)) { s with heap := h', toks := tk' }) :
   wpAny (model PR w) (lawA L fa cdv) (execs (lawBody.drop 14) (lawEnv L fa cdv)) Q E s := by
  have kf : Fill PySem.Challenge.rw_wn0026_01 Mine.hd.heap_39 := by (k_fill; exact trivial)
  clear kf
  have hps : ∀ q ∈ [(Str.ofString "place", Value.int 0 t1), (Str.ofString "shown", .bool b), (Str.ofString "exits", .ref ea)], m q.1 = some q.2 := by
    intro q hq
    simp only [List.mem_cons, List.not_mem_nil, or_false] at hq
    rcases hq with rfl | rfl | rfl <;> assumption
  have F1 := fr_over F _ hps
  have em := over_self (m := m) hps
  simp only [over] at F1 em
  clear F
  have hlen : (lawBody.drop 14).length = 1 := rfl
  k_steps
  refine useT (c_home w _ ea en es rows vs ns hrow he hes) K0 F1 X N T ?_
  rintro v2 h2 tk2 new2 F2 N2 lt2 ⟨rfl, rfl⟩
  rw [hb]
  clear F1 lt2
  k_steps
  rw [beq_self_eq_true b]
  rename Fr _ _ _ _ => F3
  exact hret _ _ (Eq.mp (congrArg (fun g : Str → Option Value => Fr h₀ L _ g) em) F3)
end
end Mine
end
theorem Mine.fresh72 : True := by
  w_top off
  trivial
section
open PySem PySem.W PyProof.Rows
set_option maxRecDepth 100000
set_option maxHeartbeats 8000000
namespace Mine

section
local macro_rules | `(tactic| walk_at "call ref") => `(tactic| (with_reducible refine Mine.Hold.out ?_))
local macro_rules | `(tactic| walk_at "storeName") => `(tactic| ((with_reducible refine inCellsS ?_); (rename Fr _ _ _ _ => F'); (rename News _ _ _ _ => N'); first | (with_unfolding_all refine stLocN F' N' ?_; intro _ _ _) | (refine Mine.Hold.out ?_)))
theorem lenC1 : (Str.ofString "C").length < 1000 := by decide
theorem lenC2 : (Str.ofString "C" ++ Str.ofString "." ++ Str.ofString "C").length < 1000 := by decide
theorem ccc : Str.ofString "C" ++ Str.ofString "." ++ (Str.ofString "C" ++ Str.ofString "." ++ Str.ofString "C") = Str.ofString "C.C.C" := by decide +kernel
theorem pre5 (w : World) (mean : ExcName → Option Value) (mg mb : Str → Option Value) (fa : Addr) (cdv : Value) (h₀ : Heap) (s : Shared) (base : Heap) (m : Str → Option Value) (news : List (Addr × Obj)) (L : Addr) (o3 o4 : Obj)
   (E : Value → Shared → Prop) (Q : Flow → Shared → Prop)
   (K0 : Below callerA base [] h₀) (F : Fr h₀ L s.heap m) (X : (Mine.hd.heap_39 w.params).In h₀) (T : Top Mine.hd.view_39 LO mean mg mb h₀)
   (N : News h₀ L s.heap ((L + 1 + 1 + 1 + 1, o4) :: (L + 1 + 1 + 1, o3) :: news)) (c3 : o3.data = Data.cell none) (c4 : o4.data = Data.cell none) (hap : ∀ p ∈ news, p.1 ≠ L + 1 + 1 + 1 + 1 ∧ p.1 ≠ L + 1 + 1 + 1)
   (hret : ∀ (h' : Heap) (tk' : Nat) (pa wa pla : Addr) (oP oW : Obj) (pits : Array Value) (tw : Tok), Fr h₀ L h' (fun y => if y = Str.ofString "places" then some (.ref pla) else if y = Str.ofString "walk" then some (.ref wa) else m y) →
      News h₀ L h' ((pla, listOf #[] 0) :: (wa, listOf #[] 0) :: (pa, listOf pits 0) :: (L + 1 + 1 + 1 + 1, oP) :: (L + 1 + 1 + 1, oW) :: news) → (∀ p ∈ news, p.1 < pa) → L + 1 + 1 + 1 + 1 < pa → pa < wa → wa < pla → IntsAre pits.toList [0, 0, 0] → oP.data = Data.cell (some (.ref pa)) → oW.data = Data.cell (some (.str (Str.ofString "C.C.C") tw)) → Q .next { s with heap := h', toks := tk' }) :
   wpAny (model PR w) (lawA L fa cdv) (execs ((lawBody.drop 5).take 4) (lawEnv L fa cdv)) Q E s := by
  have kf : Fill PySem.Challenge.rw_wn0026_01 Mine.hd.heap_39 := by (k_fill; exact trivial)
  clear kf
  k_steps
  rename Fr _ _ _ _ => F1
  rename News _ _ _ _ => N1
  refine useT (c_build w _ _ none none 0 (.head _) (fun _ h => nomatch h) (fun _ h => nomatch h)) K0 F1 X N1 T ?_
  rintro v2 h2 tk2 new2 F2 N2 lt2 ⟨rfl, t2, rfl⟩
  rw [List.nil_append] at N2
  clear F1 N1 lt2
  k_steps
  rename Fr _ _ _ _ => F1
  rename News _ _ _ _ => N1
  refine useT (c_build w _ _ none (some (Str.ofString "C", t2)) 0 (.head _) (fun _ h => nomatch h) (fun _ h => by cases h; exact lenC1)) K0 F1 X N1 T ?_
  rintro v3 h3 tk3 new3 F3 N3 lt3 ⟨rfl, t3, rfl⟩
  rw [List.nil_append] at N3
  clear F1 N1 lt3
  k_steps
  rename Fr _ _ _ _ => F1
  rename News _ _ _ _ => N1
  refine useT (c_build w _ _ none (some (Str.ofString "C" ++ Str.ofString "." ++ Str.ofString "C", t3)) 0 (.head _) (fun _ h => nomatch h) (fun _ h => by cases h; exact lenC2)) K0 F1 X N1 T ?_
  rintro v4 h4 tk4 new4 F4 N4 lt4 ⟨rfl, t4, rfl⟩
  rw [List.nil_append] at N4
  clear F1 N1 lt4
  k_steps
  rename Fr _ _ _ _ => F1
  rename News _ _ _ _ => N1
  have N5 : News h₀ L h4 ((L + 1 + 1 + 1, o3) :: (L + 1 + 1 + 1 + 1, o4) :: news) := news_drop N1 (by kcf_all)
  clear N1
  have e5 : L + 1 + 1 + 1 + 1 ≠ L + 1 + 1 + 1 := Nat.ne_of_gt (Nat.lt_succ_self _)
  refine st_cellF F1 N5 rfl (.head (fun p hp => ?_)) c3 fun h5 oW F5 N6 dW => ?_
  · rcases List.mem_cons.mp hp with rfl | hp
    · exact e5
    · exact (hap p hp).2
  clear F1 N5
  k_steps
  rename Fr _ _ _ _ => F1
  rename News _ _ _ _ => N1
  rename _ ∧ _ ∧ AllLt _ _ => hlt
  rename Addr => pa
  refine st_cellF F1 (news := (L + 1 + 1 + 1 + 1, o4) :: (pa, _) :: (L + 1 + 1 + 1, oW) :: news) (news_drop N1 (by kcf_all)) rfl (.head (fun p hp => ?_)) c4 fun h6 oP F6 N7 dP => ?_
  · rcases List.mem_cons.mp hp with rfl | hp
    · exact Nat.ne_of_gt hlt.2.1
    · rcases List.mem_cons.mp hp with rfl | hp
      · exact Ne.symm e5
      · exact (hap p hp).1
  clear F1 N1
  k_steps
  rename Fr _ _ _ _ => F1
  rename News _ _ _ _ => N1
  refine wpAny_execs_nil ?_
  dsimp only
  have dW' : oW.data = Data.cell (some (.str (Str.ofString "C.C.C") t4)) := dW.trans (congrArg (fun z => Data.cell (some (Value.str z t4))) ccc)
  rename _ ∧ _ ∧ _ ∧ _ ∧ AllLt _ _ => hlt2
  rename _ ∧ _ ∧ _ ∧ AllLt _ _ => hlt1
  exact hret _ _ pa _ _ oP oW _ t4 F1 (news_drop N1 (by kcf_all)) (allLt_mem hlt.2.2) hlt.2.1 hlt1.2.1 hlt2.1 (.cons _ _ (.cons _ _ (.cons _ _ .nil))) dP dW'
end
end Mine
end
theorem Mine.fresh73 : True := by
  w_top off
  trivial
section
open PySem PySem.W PyProof.Rows
set_option maxRecDepth 100000
set_option maxHeartbeats 8000000
namespace Mine

theorem past_zero (cns : List Int) : Past cns [0, 0, 0] 0 := by
  refine ⟨rfl, fun j hj => ?_, fun x hx => ?_, ⟨rfl, fun t ht => absurd ht (Nat.not_lt_zero _), fun t ht => ?_, fun t ht => absurd ht (Nat.not_lt_zero _), fun t ht => absurd ht (Nat.not_lt_zero _), fun t ht => absurd ht (Nat.not_lt_zero _), Rr_inj cns⟩⟩
  · have : j = 0 ∨ j = 1 ∨ j = 2 := by omega
    rcases this with rfl | rfl | rfl <;> rfl
  · simp only [List.mem_cons, List.not_mem_nil, or_false] at hx
    rcases hx with rfl | rfl | rfl <;> decide
  · have : t = 0 := by omega
    subst this
    decide
theorem win_zero (cns : List Int) : winOf [0, 0, 0] (((0 : Nat) : Int) - 1) (numsOf cns) = Str.ofString "C.C.C" := by
  rw [winOf_fd (nums_b cns)]
  have e1 : ∀ born turn : Int, ([0, 0, 0] : List Int).getD (born + 3).toNat 0 = 0 → fieldF [0, 0, 0] born turn (numsOf cns) = .c := fun born turn e => by
    unfold fieldF fdOf
    rw [e, if_pos rfl]
  rw [e1 _ _ (by decide), e1 _ _ (by decide), e1 _ _ (by decide)]
  decide +kernel
theorem home_iter (cns : List Int) (p : Nat) : ∀ k, homeIt (fun j => exN (cns.getD j 0)) k ((p : Nat) : Int) = ((Best.iter (Rr cns) k p : Nat) : Int)
  | 0 => rfl
  | k + 1 => by
    show homeStep _ (homeIt _ k ((p : Nat) : Int)) = ((Best.step (Rr cns) (Best.iter (Rr cns) k p) : Nat) : Int)
    rw [home_iter cns p k]
    generalize Best.iter (Rr cns) k p = q
    unfold homeStep Best.step
    rw [Int.toNat_natCast]
    dsimp only
    rw [← Rr_cast]
    by_cases e : q = 0
    · subst e; rfl
    · rw [if_pos (by omega), if_pos e]
      omega
theorem home_n {cns past : List Int} {i : Nat} (P : Past cns past i) (h3 : Best.cnt (plP past) i (plP past i) = 3) : homeB (fun j => exN (cns.getD j 0)) = decide (i = 27) := by
  by_cases e : i = 27
  · rw [decide_eq_true e]
    unfold homeB
    rw [List.all_eq_true]
    intro p hp
    rw [home_iter, P.W.home_of_all h3 e p (List.mem_range.mp hp)]
    rfl
  · rw [decide_eq_false e]
    cases hb : homeB (fun j => exN (cns.getD j 0)) with
    | false => rfl
    | true =>
      unfold homeB at hb
      rw [List.all_eq_true] at hb
      refine absurd (P.W.all_of_home h3 (Rr_lt cns) (fun p hp => ?_)) e
      have a := hb p (List.mem_range.mpr hp)
      rw [home_iter] at a
      have b := eq_of_beq a
      omega
theorem cnt_le (pl : Nat → Nat) (p : Nat) : ∀ t, Best.cnt pl t p ≤ t
  | 0 => Nat.le_refl _
  | t + 1 => by
    have := cnt_le pl p t
    show Best.cnt pl t p + (if pl t = p then 1 else 0) ≤ t + 1
    split <;> omega
theorem cd_lt {cns past : List Int} {i : Nat} (P : Past cns past i) (t : Nat) : cdP past t < 27 :=
  (dg_all (past_get P.b (t + 2)) (past_get P.b (t + 1)) (past_get P.b t)).2.1
theorem cd_inj' {cns past : List Int} {n : Nat} (P : Past cns past n) (i j : Nat) (hi : i < n) (hj : j < n) (h : cdP past (i + 1) = cdP past (j + 1)) : i = j := by
  have key : ∀ t, cdP past (t + 1) = 9 * dgP past t + plP past t := fun t => (dg_all (past_get P.b (t + 3)) (past_get P.b (t + 2)) (past_get P.b (t + 1))).1
  rw [key, key] at h
  exact P.W.once hi hj h
theorem ne_cell {h₀ h : Heap} {L a b : Addr} {v : Array Value} {n : Nat} {o : Obj} {x : Option Value} {news : List (Addr × Obj)} (N : News h₀ L h news) (m1 : (a, listOf v n) ∈ news) (m2 : (b, o) ∈ news) (c : o.data = Data.cell x) : a ≠ b := by
  intro e
  subst e
  have e1 := (N _ m1).1
  have e2 := (N _ m2).1
  have e3 : listOf v n = o := Option.some.inj (e1.symm.trans e2)
  have e4 : (Data.seq v n) = Data.cell x := (congrArg Obj.data e3).trans c
  cases e4
theorem law_walk (w : World) (mean : ExcName → Option Value) (mg mb : Str → Option Value) (fa : Addr) (cdv : Value) (h₀ : Heap) (s : Shared) (base : Heap) (sc : Addr) (svs : List Value) (sns : List Int)
   (hl : base.IsList sc svs.toArray) (hi : IntsAre svs sns) (hn : sns.length ≤ 63)
   (E : Value → Shared → Prop) (Q : Flow → Shared → Prop) (o1 o2 o3 o4 o5 : Obj)
   (K0 : Below callerA base [] h₀) (F : Fr h₀ h₀.objs.size s.heap (fun y => if y = Str.ofString "script" then some (.ref sc) else none)) (X : (Mine.hd.heap_39 w.params).In h₀) (T : Top Mine.hd.view_39 LO mean mg mb h₀)
   (c1 : o1.data = Data.cell none) (c2 : o2.data = Data.cell none) (c3 : o3.data = Data.cell none) (c4 : o4.data = Data.cell none) (c5 : o5.data = Data.cell none)
   (N : News h₀ h₀.objs.size s.heap [(h₀.objs.size + 1 + 1 + 1 + 1 + 1, o5), (h₀.objs.size + 1 + 1 + 1 + 1, o4), (h₀.objs.size + 1 + 1 + 1, o3), (h₀.objs.size + 1 + 1, o2), (h₀.objs.size + 1, o1)])
   (hret : ∀ h' tk' m', Fr h₀ h₀.objs.size h' m' → Q (.ret (.bool true)) { s with heap := h', toks := tk' }) :
   wpH (model PR w) (lawA h₀.objs.size fa cdv) (execs (lawBody.drop 0) (lawEnv h₀.objs.size fa cdv)) Q E s := by
  have hsz : @LT.lt Nat _ h₀.objs.size (h₀.objs.size + 1) := Nat.lt_succ_self _
  refine seqH 0 3 (wpH.up (pre012 w mean mg mb fa cdv h₀ s base sc svs sns hl hi hn E _ o1 o2 o3 o4 o5 K0 F X T c1 c2 c3 c4 c5 N (fun h1 tk1 ca cvs cns cn na s0 s1 s2 sa oN oS nvs sv0 sv1 sv2 hci hcl F1 N1 dN dS hnv hsv0 hsv1 hsv2 o_ca o_na o_s0 o_s1 o_s2 o_sa => ?_)))
  clear F N
  obtain ⟨t1, t2, t3, rfl⟩ := hnv
  obtain ⟨t4, t5, rfl⟩ := hsv0
  obtain ⟨t6, t7, rfl⟩ := hsv1
  obtain ⟨t8, t9, rfl⟩ := hsv2
  generalize hL : h₀.objs.size = L at *
  dsimp only
  refine seqH 3 1 (wpH.up (pre3 w mean mg mb fa cdv h₀ _ base _ _ ca cvs cns cn hci hcl L E _ K0 F1 X T (by simp) N1 (fun h2 tk2 ea en es vs ns nw F2 N2 nea hnw hin hex => ?_)))
  dsimp only
  refine seqH 4 1 (wpH.up (pre4 w mean mg mb fa cdv h₀ _ base _ _ L E _ K0 F2 X T N2 (fun h3 tk3 la ln ts F3 N3 nla => ?_)))
  dsimp only
  have mem1 : ∀ p ∈ [(sa, listOf #[.ref s0, .ref s1, .ref s2] 0), (s2, listOf #[.int 100 t8, .int (num2 cns) t9] 0), (s1, listOf #[.int 100 t6, .int (num1 cns) t7] 0), (s0, listOf #[.int 0 t4, .str (Str.ofString "C") t5] 0), (na, listOf #[.int 0 t1, .int (num1 cns) t2, .int (num2 cns) t3] 0), (ca, listOf cvs.toArray cn), (L + 1 + 1 + 1 + 1 + 1, o5), (L + 1 + 1 + 1 + 1, o4), (L + 1 + 1 + 1, o3), (L + 1 + 1, oS), (L + 1, oN)], p ∈ (la, listOf (strsOf (fun k => lineAt k 0) ts 9).toArray ln) :: (ea, listOf (refsOf es 9).toArray en) :: nw := fun p hp => .tail _ (.tail _ (hin p hp))
  have m_o5 := mem1 (L + 1 + 1 + 1 + 1 + 1, o5) (by simp)
  have m_o4 := mem1 (L + 1 + 1 + 1 + 1, o4) (by simp)
  have m_o3 := mem1 (L + 1 + 1 + 1, o3) (by simp)
  have m_oS := mem1 (L + 1 + 1, oS) (by simp)
  have m_oN := mem1 (L + 1, oN) (by simp)
  have m_es : ∀ i < 9, (es i, listOf (vs i).toArray (ns i)) ∈ (la, listOf (strsOf (fun k => lineAt k 0) ts 9).toArray ln) :: (ea, listOf (refsOf es 9).toArray en) :: nw := fun i hi => .tail _ (.tail _ (hex i hi).2)
  have lst : ∀ {a : Addr} {v : Array Value} {n : Nat}, (a, listOf v n) ∈ (la, listOf (strsOf (fun k => lineAt k 0) ts 9).toArray ln) :: (ea, listOf (refsOf es 9).toArray en) :: nw → a ≠ L + 1 + 1 + 1 + 1 + 1 ∧ a ≠ L + 1 + 1 + 1 + 1 ∧ a ≠ L + 1 + 1 + 1 := fun hm => ⟨ne_cell N3 hm m_o5 c5, ne_cell N3 hm m_o4 c4, ne_cell N3 hm m_o3 c3⟩
  have both : ∀ {a : Addr} {v : Array Value} {n : Nat}, (a, listOf v n) ∈ (la, listOf (strsOf (fun k => lineAt k 0) ts 9).toArray ln) :: (ea, listOf (refsOf es 9).toArray en) :: nw → (a, listOf v n) ∈ (la, listOf (strsOf (fun k => lineAt k 0) ts 9).toArray ln) :: (ea, listOf (refsOf es 9).toArray en) :: nw ∧ a ≠ L + 1 + 1 + 1 + 1 + 1 ∧ a ≠ L + 1 + 1 + 1 + 1 ∧ a ≠ L + 1 + 1 + 1 := fun hm => ⟨hm, lst hm⟩
  generalize hR : (la, listOf (strsOf (fun k => lineAt k 0) ts 9).toArray ln) :: (ea, listOf (refsOf es 9).toArray en) :: (sa, listOf #[.ref s0, .ref s1, .ref s2] 0) :: (s2, listOf #[.int 100 t8, .int (num2 cns) t9] 0) :: (s1, listOf #[.int 100 t6, .int (num1 cns) t7] 0) :: (s0, listOf #[.int 0 t4, .str (Str.ofString "C") t5] 0) :: (na, listOf #[.int 0 t1, .int (num1 cns) t2, .int (num2 cns) t3] 0) :: (L + 1 + 1, oS) :: (L + 1, oN) :: (List.range 9).map (fun i => (es i, listOf (vs i).toArray (ns i))) = R
  have hRin : ∀ q ∈ R, q ∈ (la, listOf (strsOf (fun k => lineAt k 0) ts 9).toArray ln) :: (ea, listOf (refsOf es 9).toArray en) :: nw ∧ q.1 ≠ L + 1 + 1 + 1 + 1 + 1 ∧ q.1 ≠ L + 1 + 1 + 1 + 1 ∧ q.1 ≠ L + 1 + 1 + 1 := by
    intro q hq
    rw [← hR] at hq
    simp only [List.mem_cons, List.mem_map, List.mem_range] at hq
    rcases hq with rfl | rfl | rfl | rfl | rfl | rfl | rfl | rfl | rfl | ⟨i, hi, rfl⟩
    · exact ⟨.head _, lst (.head _)⟩
    · exact ⟨.tail _ (.head _), lst (.tail _ (.head _))⟩
    · exact both (mem1 _ (by simp))
    · exact both (mem1 _ (by simp))
    · exact both (mem1 _ (by simp))
    · exact both (mem1 _ (by simp))
    · exact both (mem1 _ (by simp))
    · exact ⟨m_oS, (show @Ne Nat (L + 1 + 1) _ by omega), (show @Ne Nat (L + 1 + 1) _ by omega), (show @Ne Nat (L + 1 + 1) _ by omega)⟩
    · exact ⟨m_oN, (show @Ne Nat (L + 1) _ by omega), (show @Ne Nat (L + 1) _ by omega), (show @Ne Nat (L + 1) _ by omega)⟩
    · exact ⟨m_es i hi, lst (m_es i hi)⟩
  have N4 : News h₀ L h3 ((L + 1 + 1 + 1 + 1, o4) :: (L + 1 + 1 + 1, o3) :: (L + 1 + 1 + 1 + 1 + 1, o5) :: R) := fun q hq => by
    simp only [List.mem_cons] at hq
    rcases hq with rfl | rfl | rfl | hq
    · exact N3 _ m_o4
    · exact N3 _ m_o3
    · exact N3 _ m_o5
    · exact N3 _ (hRin q hq).1
  refine seqH 5 4 (wpH.up (pre5 w mean mg mb fa cdv h₀ _ base _ ((L + 1 + 1 + 1 + 1 + 1, o5) :: R) L o3 o4 E _ K0 F3 X T N4 c3 c4 (fun q hq => ?_) (fun h4 tk4 pa wa pla oP oW pits tw F4 N5 ltp l4 lpw lwp hpits dP dW => ?_)))
  · rcases List.mem_cons.mp hq with rfl | hq
    · exact ⟨(show @Ne Nat (L + 1 + 1 + 1 + 1 + 1) _ by omega), (show @Ne Nat (L + 1 + 1 + 1 + 1 + 1) _ by omega)⟩
    · exact (hRin q hq).2.2
  dsimp only
  clear F1 F2 F3 N1 N2 N3 N4
  have l5 : @LT.lt Nat _ (L + 1 + 1 + 1 + 1 + 1) pa := ltp _ (.head _)
  have lR : ∀ q ∈ R, @LT.lt Nat _ q.1 pa := fun q hq => ltp q (.tail _ hq)
  have hmem : ∀ q ∈ (la, listOf (strsOf (fun k => lineAt k 0) ts 9).toArray ln) :: (ea, listOf (refsOf es 9).toArray en) :: (sa, listOf #[.ref s0, .ref s1, .ref s2] 0) :: (s2, listOf #[.int 100 t8, .int (num2 cns) t9] 0) :: (s1, listOf #[.int 100 t6, .int (num1 cns) t7] 0) :: (s0, listOf #[.int 0 t4, .str (Str.ofString "C") t5] 0) :: (na, listOf #[.int 0 t1, .int (num1 cns) t2, .int (num2 cns) t3] 0) :: (L + 1 + 1, oS) :: (L + 1, oN) :: (List.range 9).map (fun i => (es i, listOf (vs i).toArray (ns i))), q ∈ R := fun q hq => hR ▸ hq
  clear hR
  obtain ⟨pits⟩ := pits
  have hfix : Fix L cns ⟨na, [.int 0 t1, .int (num1 cns) t2, .int (num2 cns) t3], oN, sa, oS, (fun i => if i = 0 then s0 else if i = 1 then s1 else s2), (fun i => if i = 0 then #[.int 0 t4, .str (Str.ofString "C") t5] else if i = 1 then #[.int 100 t6, .int (num1 cns) t7] else #[.int 100 t8, .int (num2 cns) t9]), ea, en, es, vs, ns, oP, pa, wa, pla⟩ ((L + 1 + 1 + 1 + 1, oP) :: R) := by
    have three : ∀ {P : Nat → Prop}, P 0 → P 1 → P 2 → ∀ i < 3, P i := fun a b c i hi => by
      have : i = 0 ∨ i = 1 ∨ i = 2 := by omega
      rcases this with rfl | rfl | rfl <;> assumption
    refine ⟨.tail _ (hmem _ (by simp)), dN, .tail _ (hmem _ (by simp)), .cons 0 t1 (.cons (num1 cns) t2 (.cons (num2 cns) t3 .nil)), .tail _ (hmem _ (by simp)), dS, .tail _ (hmem _ (by simp)), ?_, ?_, ?_, .head _, dP, .tail _ (hmem _ (by simp)), ?_, fun i hi => (hex i hi).1, ?_, ?_, ?_, ?_, ?_⟩
    · exact three (.tail _ (hmem _ (by simp))) (.tail _ (hmem _ (by simp))) (.tail _ (hmem _ (by simp)))
    · exact three (.int (.str .nil)) (.int (.int .nil)) (.int (.int .nil))
    · exact ⟨(show @Ne Nat s0 s1 by omega), (show @Ne Nat s0 s2 by omega), (show @Ne Nat s1 s2 by omega)⟩
    · exact fun i hi => .tail _ (hmem _ (by simp only [List.mem_cons, List.mem_map, List.mem_range]; iterate 9 right
                                            exact ⟨i, hi, rfl⟩))
    · intro q hq
      rcases List.mem_cons.mp hq with rfl | hq
      · exact ⟨(show @Ne Nat (L + 1 + 1 + 1 + 1) _ by omega), (show @Ne Nat (L + 1 + 1 + 1 + 1) _ by omega), (show @Ne Nat (L + 1 + 1 + 1 + 1) wa by have : @LT.lt Nat _ pa wa := lpw; omega), (show @Ne Nat (L + 1 + 1 + 1 + 1) pla by have : @LT.lt Nat _ pa wa := lpw; have : @LT.lt Nat _ wa pla := lwp; omega), (show @Ne Nat (L + 1 + 1 + 1 + 1) pa by omega)⟩
      · have a := lR q hq
        have b := (hRin q hq).2
        exact ⟨b.1, b.2.2, (show @Ne Nat q.1 wa by have : @LT.lt Nat _ pa wa := lpw; omega), (show @Ne Nat q.1 pla by have : @LT.lt Nat _ pa wa := lpw; have : @LT.lt Nat _ wa pla := lwp; omega), (show @Ne Nat q.1 pa by omega)⟩
    · exact Nat.ne_of_lt lwp
    · exact Nat.ne_of_gt lpw
    · exact Nat.ne_of_gt (Nat.lt_trans lpw lwp)
    · exact ⟨Nat.lt_trans l5 lpw, Nat.lt_trans l5 (Nat.lt_trans lpw lwp), l5⟩
  have S : LS h₀ L cns ⟨na, [.int 0 t1, .int (num1 cns) t2, .int (num2 cns) t3], oN, sa, oS, (fun i => if i = 0 then s0 else if i = 1 then s1 else s2), (fun i => if i = 0 then #[.int 0 t4, .str (Str.ofString "C") t5] else if i = 1 then #[.int 100 t6, .int (num1 cns) t7] else #[.int 100 t8, .int (num2 cns) t9]), ea, en, es, vs, ns, oP, pa, wa, pla⟩ ((L + 1 + 1 + 1 + 1, oP) :: R) none 0 [0, 0, 0] (fun y => if y = Str.ofString "places" then some (.ref pla) else if y = Str.ofString "walk" then some (.ref wa) else if y = Str.ofString "lines" then some (.ref la) else if y = Str.ofString "exits" then some (.ref ea) else if y = Str.ofString "cells" then some (.ref ca) else if y = Str.ofString "script" then some (.ref sc) else none) h4 := by
    refine LS.intro o5 oW tw 0 0 0 [] pits la ln ts (fun _ => L) (fun _ => #[]) (fun _ => 0) (past_zero cns) F4 ?_ ?_ ?_ hfix ?_ (fun q hq => ?_) c5 (by rw [win_zero]; exact dW) .nil hpits (.tail _ (hmem _ (.head _))) (fun t ht => absurd ht (Nat.not_lt_zero _)) (fun t ht => absurd ht (Nat.not_lt_zero _))
    · rw [if_neg (by decide), if_neg (by decide), if_neg (by decide), if_pos rfl]
    · rw [if_neg (by decide), if_pos rfl]
    · rw [if_pos rfl]
    · rw [if_neg (by decide), if_neg (by decide), if_pos rfl]
    · simp only [List.mem_cons] at hq
      rcases hq with rfl | rfl | rfl | rfl | rfl | rfl | hq
      · exact N5 _ (.tail _ (.tail _ (.tail _ (.tail _ (.tail _ (.head _))))))
      · exact N5 _ (.tail _ (.tail _ (.tail _ (.tail _ (.head _)))))
      · exact N5 _ (.tail _ (.head _))
      · exact N5 _ (.head _)
      · exact N5 _ (.tail _ (.tail _ (.head _)))
      · exact N5 _ (.tail _ (.tail _ (.tail _ (.head _))))
      · exact N5 _ (.tail _ (.tail _ (.tail _ (.tail _ (.tail _ (.tail _ hq))))))
  clear F4 N5 hfix hmem
  refine seqH 9 1 (loop_all w mean mg mb fa cdv h₀ _ base L cns _ E _ K0 X T _ none [0, 0, 0] _ S (fun h5 tk5 m5 i past tp R5 oW5 tw5 wn tl tv tn hi27 FSt => ?_))
  dsimp only
  obtain ⟨P, h3, F5, me, mw, mp, Fx, N6, dW5, hml, hmc⟩ := FSt
  have hp0 := P.W.home h3
  rw [hp0] at mp
  have h3i : 3 ≤ i := by have := cnt_le (plP past) (plP past i) i; omega
  have up : ∀ {q : Addr × Obj}, q ∈ R5 → q ∈ (L + 1 + 1 + 1, oW5) :: (wa, listOf (refsOf tl (i + 1)).toArray wn) :: R5 := fun h => .tail _ (.tail _ h)
  refine seqH 10 1 (post10 w mean mg mb fa cdv h₀ _ base m5 _ L wa wn tl tv tn (cdP past) i (num1 cns) (num2 cns) E _ K0 F5 X T mw N6 (.tail _ (.head _)) (fun t ht => up (hml t ht)) hmc (by omega) hi27 (fun h6 tk6 m6 hm6 F6 N7 => ?_))
  dsimp only
  refine seqH 11 1 (wpH.up (post11 w mean mg mb fa cdv h₀ _ m6 _ L na _ oN E _ F6 X T N7 (up Fx.mN) Fx.dN (up Fx.mn) rfl (fun v hv => ?_) (fun h7 tk7 F7 N8 => ?_)))
  · have nb := num_bounds cns
    simp only [List.mem_cons, List.not_mem_nil, or_false] at hv
    rcases hv with rfl | rfl | rfl
    · exact ⟨0, t1, by omega, rfl⟩
    · exact ⟨(num1 cns).toNat, t2, by omega, by rw [Int.toNat_of_nonneg nb.1]⟩
    · exact ⟨(num2 cns).toNat, t3, by omega, by rw [Int.toNat_of_nonneg (by omega)]⟩
  dsimp only
  refine seqH 12 1 (wpH.up (post12 w mean mg mb fa cdv h₀ _ base m6 _ L oW5 _ tw5 E _ K0 F7 X T N8 (.head _) dW5 ?_ (fun h8 tk8 F8 N9 => ?_)))
  · have nb := nums_b cns
    rw [winOf_fd nb]
    refine Nat.lt_trans (win3_len ?_ ?_ ?_) (by decide)
    · exact fieldF_ok (past := past) nb _ _ _
    · exact fieldF_ok (past := past) nb _ _ _
    · exact fieldF_ok (past := past) nb _ _ _
  dsimp only
  refine seqH 13 1 (wpH.up (post13 w mean mg mb fa cdv h₀ _ m6 _ L wa sa wn oS _ _ (num1 cns) (num2 cns) tl tv tn (cdP past) i E _ F8 X T (by rw [hm6 _ (by decide)]; exact mw) N9 (up Fx.mS) Fx.dS (up Fx.msa) (fun j hj => up (Fx.msg j hj)) Fx.cel (num_bounds cns).2.1 (.tail _ (.head _)) (fun t ht => up (hml t ht)) hmc (fun t _ => cd_lt P t) (cd_inj' P) (by omega) hi27 (fun h9 tk9 F9 N10 => ?_)))
  dsimp only
  refine wpH.up (post14 w mean mg mb fa cdv h₀ _ base _ _ L ea en es (fun j => exN (cns.getD j 0)) vs ns tp (decide (i = 27)) E Q K0 F9 X T ?_ ?_ ?_ N10 (fun j hj => ⟨Fx.hrow j hj, (exN_facts _).1, (exN_facts _).2.1⟩) (up Fx.me) (fun j hj => up (Fx.mes j hj)) (home_n P h3) (fun h10 tk10 F10 => ?_))
  · rw [if_neg (by decide), hm6 _ (by decide)]; exact mp
  · rw [if_pos rfl]
  · rw [if_neg (by decide), hm6 _ (by decide)]; exact me
  · exact hret _ _ _ F10
end Mine
end
theorem Mine.fresh74 : True := by
  w_top off
  trivial
section
open PySem PySem.W PyProof.Rows
set_option maxRecDepth 100000
set_option maxHeartbeats 8000000
namespace Mine

theorem fin : PySem.Challenge.rw_wn0026_01.Holds := by
  refine Mine.hd ?_
  k_fill
  intro w s₀ s₁ mg mb G Y fa o pm cd doc dV kV ho hd hcd hD hmg hg args vals as hpre hlay hrd hwl hlo
  have KX := kIn_of Y
  have X := (Ground.X G).1
  have V := (Ground.X G).2
  refine Ground.open G ?_
  intro T B D TE TW
  try (refine guard_noD D (by decide +kernel) ?_; clear D)
  obtain ⟨_, _, M⟩ := bmod_of_top T
  have TA := at_of_top T
  try (obtain ⟨_, _, he, B0⟩ := based_of_top T rfl hmg ho hd; have he' : cd = _ := he; subst he'; clear he)
  clear hmg
  wrow_args hpre hlay hrd hwl hlo
  have K0 := below_caller (Top.heap T)
  have he := Dflts.none hD rfl
  subst he
  have he := Dflts.noKw hD
  subst he
  refine callH_cellsN (by decide) ho (fd_plain hd) (Top.nolimit T) hcd rfl (kinds_of (by kinds_ok)) (by decide) fun h₁ tk₁ cells F N0 X0 => ?_
  cells_open X0
  rename Heap.IsList _ _ _ => hL
  rename IntsAre _ _ => hI
  refine law_walk w _ mg mb fa _ s₁.heap _ s₁.heap _ _ _ hL hI ?hn _ _ _ _ _ _ _ K0 F KX T ?c1 ?c2 ?c3 ?c4 ?c5 N0 (fun h9 tk9 m9 F9 => ?_)
  case hn => omega
  case c1 => refine Eq.trans (by assumption) ?_; rfl
  case c2 => refine Eq.trans (by assumption) ?_; rfl
  case c3 => refine Eq.trans (by assumption) ?_; rfl
  case c4 => refine Eq.trans (by assumption) ?_; rfl
  case c5 => refine Eq.trans (by assumption) ?_; rfl
  clear F N0 X0 K0
  (try dsimp only)
  wrow_closeG
end Mine
end
theorem PySem.Challenge.cw_wn0026_01_holds : PySem.Challenge.rw_wn0026_01.Holds := by
  exact Mine.fin
