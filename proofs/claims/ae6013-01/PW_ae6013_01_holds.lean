import PyProof.Rows.All
import Wide.All
import OpenK.AllK
import Wide.FinOn
import Lean
import PySem.Challenge.RW_ae6013_01
open PySem PySem.W PySem.Calls PyProof.Rows
open Sem (wp)
set_option Elab.async false
set_option maxRecDepth 100000
namespace Mine
/-- a code that lends no bytearray out -/
def NoLend (c : Code) : Prop := ∀ id args, c = .builtin id args → guardIds.contains id = false ∧ Builtin.Bytes.decodersThatHold.contains id = false
theorem noLend_builtin {id : String} {args : Args} (h : (guardIds.contains id || Builtin.Bytes.decodersThatHold.contains id) = false) : NoLend (.builtin id args) := by
  intro i a e; cases e; exact Bool.or_eq_false_iff.mp h
theorem noLend_other {c : Code} (h : ∀ id args, c ≠ .builtin id args) : NoLend c := fun i a e => absurd e (h i a)
def Good (Γ : Ctx) : Prop := NoLend Γ.code ∧ ∀ x ∈ Γ.below, NoLend x.1
def GoodB (Γ : Ctx) : Prop := ∀ x ∈ Γ.below, NoLend x.1
def wpG {α : Type} (M : Model) (A : Around) (t : Sem α) (Q : α → Shared → Prop) (E : Value → Shared → Prop) (s : Shared) : Prop :=
  ∀ Γ p, Γ.In A → Good Γ → wp M Γ t (fun a _ s' => Q a s') (fun e _ s' => E e s') p s
def codeG (M : Model) (A : Around) (c : Code) (R : Result → Shared → Prop) (s : Shared) : Prop :=
  ∀ Γ p, Γ.code = c → Γ.Below A → GoodB Γ → wpCode M Γ R p s
section
variable {α β : Type} {M : Model} {A : Around} {E : Value → Shared → Prop} {s : Shared}
theorem G_any {t : Sem α} {Q : α → Shared → Prop} (h : wpAny M A t Q E s) : wpG M A t Q E s := fun Γ p hΓ _ => h Γ p hΓ
theorem codeG_any {c : Code} {R : Result → Shared → Prop} (h : codeAny M A c R s) : codeG M A c R s := fun Γ p hc hΓ _ => h Γ p hc hΓ
theorem G_pure {a : α} {Q : α → Shared → Prop} (h : Q a s) : wpG M A (pure a) Q E s := fun _ _ _ _ => h
theorem G_mono {t : Sem α} {Q Q' : α → Shared → Prop} {E' : Value → Shared → Prop} (h : wpG M A t Q E s)
    (hQ : ∀ a s, Q a s → Q' a s) (hE : ∀ e s, E e s → E' e s) : wpG M A t Q' E' s :=
  fun Γ p hΓ g => Sem.wp_mono M Γ t (fun a _ s => hQ a s) (fun e _ s => hE e s) p s (h Γ p hΓ g)
theorem codeG_mono {c : Code} {R R' : Result → Shared → Prop} (h : codeG M A c R s) (hR : ∀ r s, R r s → R' r s) : codeG M A c R' s :=
  fun Γ p hc hΓ g => wpCode_mono hR (h Γ p hc hΓ g)
theorem G_bind {m : Sem α} {f : α → Sem β} {Q : β → Shared → Prop} (h : wpG M A m (fun a s' => wpG M A (f a) Q E s') E s) :
    wpG M A (m >>= f) Q E s := fun Γ p hΓ g => by
  rw [Sem.wp_bind']
  exact Sem.wp_mono M Γ m (fun a p' s' h' => h' Γ p' hΓ g) (fun _ _ _ h' => h') p s (h Γ p hΓ g)
/-- a first part that asks nothing of the stack -/
theorem G_then {m : Sem α} {f : α → Sem β} {Q : β → Shared → Prop} (h : wpAny M A m (fun a s' => wpG M A (f a) Q E s') E s) :
    wpG M A (m >>= f) Q E s := G_bind (G_any h)
/-- a last part that asks nothing of the stack -/
theorem G_last {m : Sem α} {f : α → Sem β} {Q : β → Shared → Prop} (h : wpG M A m (fun a s' => wpAny M A (f a) Q E s') E s) :
    wpG M A (m >>= f) Q E s := G_bind (G_mono h (fun _ _ x => G_any x) fun _ _ x => x)
theorem G_map {m : Sem α} {f : α → β} {Q : β → Shared → Prop} (h : wpG M A m (fun a s' => Q (f a) s') E s) :
    wpG M A (f <$> m) Q E s := fun Γ p hΓ g => by rw [Sem.wp_map]; exact h Γ p hΓ g
theorem G_onRaise {m : Sem α} {k : Value → Sem Unit} {Q : α → Shared → Prop}
    (h : wpG M A m Q (fun e s' => wpAny M A (k e) (fun _ s'' => E e s'') E s') s) : wpG M A (m.onRaise k) Q E s := fun Γ p hΓ g => by
  rw [Sem.wp_onRaise]
  exact Sem.wp_mono M Γ m (fun _ _ _ h' => h') (fun e p' s' h' => h' Γ p' hΓ) p s (h Γ p hΓ g)
theorem G_attempt {m : Sem α} {Q : Except Value α → Shared → Prop} (h : wpG M A m (fun a => Q (.ok a)) (fun e => Q (.error e)) s) :
    wpG M A m.attempt Q E s := fun Γ p hΓ g => by rw [Sem.wp_attempt]; exact h Γ p hΓ g
theorem G_holding {vs : List Value} {m : Sem α} {Q : α → Shared → Prop} (h : wpG M A m Q E s) : wpG M A (holding vs m) Q E s :=
  fun Γ p hΓ g => by rw [Sem.wp_holding]; exact h Γ p hΓ g
theorem G_standAt {pos : Pos} {f : Unit → Sem β} {Q : β → Shared → Prop} (h : wpG M A (f ()) Q E s) : wpG M A (standAt pos >>= f) Q E s := G_then (wpAny_standAt h)
theorem G_operate {vs : List Value} {m : Sem Value} {Q : Value → Shared → Prop} (h : wpG M A m Q E s) : wpG M A (operate vs m) Q E s :=
  fun Γ p hΓ g => by rw [Sem.wp_operate]; exact h Γ p hΓ g
theorem G_runValue {c : Code} {Q : Value → Shared → Prop}
    (hc : codeG M A c (fun r s' => match r with | .ok (.ret v) => Q v s' | .ok _ => False | .error e => E e s') s) :
    wpG M A (runValue c) Q E s := fun Γ p hΓ g => by
  rw [Sem.wp_runValue]
  exact hc _ p rfl (hΓ.enter c none p (by intro x; cases x)) (fun x hx => by
    rcases List.mem_cons.mp hx with e | e
    · rw [e]; exact g.1
    · exact g.2 x e)
theorem G_run {c : Code} {h : Option Value} {Q : Flow → Shared → Prop}
    (hc : codeG M (A.mark h) c (fun r s' => match r with | .ok f => Q f s' | .error e => E e s') s) (hnb : h ≠ some byPass := by intro x; cases x) :
    wpG M A (run c h) Q E s :=
  fun Γ p hΓ g => by
  rw [Sem.wp_run]
  exact hc _ p rfl (hΓ.enter c h p hnb) (fun x hx => by
    rcases List.mem_cons.mp hx with e | e
    · rw [e]; exact g.1
    · exact g.2 x e)
theorem G_call {f : Value} {pos : List Value} {kw : List (Str × Value)} {Q : Value → Shared → Prop}
    (hc : codeG M A (.call f ⟨pos, kw⟩) (fun r s' => match r with | .ok (.ret v) => Q v s' | .ok _ => False | .error e => E e s') s) :
    wpG M A (call f pos kw) Q E s := G_runValue hc
theorem codeG_of_tree {c : Code} {R : Result → Shared → Prop} (hn : NoLend c)
    (h : wpG M (A.under c) (M.den c) (fun fin s' => match fin with | .done f => R (.ok f) s' | .again c' => c'.quiet = true ∧ codeG M A c' R s')
      (fun e s' => R (.error e) s') s) : codeG M A c R s := fun Γ p hc hΓ g => by
  rw [wpCode_iff_wp, hc]
  refine Sem.wp_mono M Γ _ (fun fin p' s' h' => ?_) (fun _ _ _ h' => h') p s (h Γ p (hc ▸ hΓ.in) ⟨hc ▸ hn, g⟩)
  cases fin with
  | done f => exact h'
  | again c' => exact ⟨h'.1, h'.2 (Γ.goto c') p' rfl (hΓ.goto c') g⟩
/-- the code itself is known; what is below it lends nothing -/
def ownG {α : Type} (M : Model) (A : Around) (c : Code) (t : Sem α) (Q : α → Shared → Prop) (E : Value → Shared → Prop) (s : Shared) : Prop :=
  ∀ Γ p, Γ.code = c → Γ.Below A → GoodB Γ → wp M Γ t (fun a _ s' => Q a s') (fun e _ s' => E e s') p s
theorem codeG_of_own {c : Code} {R : Result → Shared → Prop}
    (h : ownG M A c (M.den c) (fun fin s' => match fin with | .done f => R (.ok f) s' | .again c' => c'.quiet = true ∧ codeG M A c' R s')
      (fun e s' => R (.error e) s') s) : codeG M A c R s := fun Γ p hc hΓ g => by
  rw [wpCode_iff_wp, hc]
  refine Sem.wp_mono M Γ _ (fun fin p' s' h' => ?_) (fun _ _ _ h' => h') p s (h Γ p hc hΓ g)
  cases fin with
  | done f => exact h'
  | again c' => exact ⟨h'.1, h'.2 (Γ.goto c') p' rfl (hΓ.goto c') g⟩
/-- nobody on the stack holds the bytearray -/
theorem G_exported {self : Value} {Q : Bool → Shared → Prop} (h : Q false s) : wpG M A (Builtin.Bytes.exported self) Q E s := fun Γ p hΓ g => by
  have key : ∀ (l : List (Code × Pos)), (∀ x ∈ l, NoLend x.1) → (l.any fun
    | (.builtin "bytearray.__contains__" ⟨v :: _, _⟩, _) | (.builtin "bytearray.__mod__" ⟨v :: _, _⟩, _)
    | (.builtin "bytearray.__rmod__" ⟨_ :: v :: _, _⟩, _) | (.builtin "_struct.pack_into.held" ⟨v :: _, _⟩, _) => Builtin.Bytes.sameRef v self
    | (.builtin "bytearray.find.held" ⟨_ :: _ :: held, _⟩, _) => held.any (Builtin.Bytes.sameRef self)
    | (.builtin id ⟨v :: _, _⟩, _) => Builtin.Bytes.sameRef v self && Builtin.Bytes.decodersThatHold.contains id
    | _ => false) = false := by
    intro l hl
    refine List.any_eq_false.mpr fun x hx => ?_
    have hn := hl x hx
    obtain ⟨c, p⟩ := x
    split
    · rename_i e
      have := hn _ _ (congrArg Prod.fst e); exact absurd this.1 (by decide)
    · rename_i e
      have := hn _ _ (congrArg Prod.fst e); exact absurd this.1 (by decide)
    · rename_i e
      have := hn _ _ (congrArg Prod.fst e); exact absurd this.1 (by decide)
    · rename_i e
      have := hn _ _ (congrArg Prod.fst e); exact absurd this.1 (by decide)
    · rename_i e
      have := hn _ _ (congrArg Prod.fst e); exact absurd this.1 (by decide)
    · rename_i e
      have := hn _ _ (congrArg Prod.fst e); rw [this.2]; simp
    · exact Bool.false_ne_true
  show Q (List.any ((Γ.code, p) :: Γ.below) _) s
  have := key ((Γ.code, p) :: Γ.below) (fun x hx => by
    rcases List.mem_cons.mp hx with e | e
    · rw [e]; exact g.1
    · exact g.2 x e)
  refine (congrArg (fun b => Q b s) ?_).mpr h
  exact this
end
section
variable {M : Model} {A : Around} {E : Value → Shared → Prop} {s : Shared} {env : Env}
theorem G_execs_nil {Q : Flow → Shared → Prop} (h : Q .next s) : wpG M A (execs [] env) Q E s := fun _ _ _ _ => h
theorem G_execs_cons {st rest} {Q : Flow → Shared → Prop}
    (h : wpG M A (exec st env) (fun f s' => match f with | .next => wpG M A (execs rest env) Q E s' | f => Q f s') E s) :
    wpG M A (execs (st :: rest) env) Q E s := fun Γ p hΓ g => by
  rw [execs_cons, Sem.wp_bind']
  refine Sem.wp_mono M Γ _ (fun f p' s' h' => ?_) (fun _ _ _ h' => h') _ _ (h Γ p hΓ g)
  cases f <;> first | exact h' Γ p' hΓ g | exact h'
theorem execs_append (l r : List Stmt) (env : Env) : execs (l ++ r) env = (do match ← execs l env with | .next => execs r env | f => pure f) := by
  induction l with
  | nil => rfl
  | cons a l ih =>
    rw [List.cons_append, execs_cons, execs_cons, ih]
    simp only [bind_assoc]
    congr 1; funext f
    cases f <;> simp
/-- a first run of statements that ask nothing of the stack -/
theorem G_execs_split (l r : List Stmt) {Q : Flow → Shared → Prop}
    (h : wpAny M A (execs l env) (fun f s' => match f with | .next => wpG M A (execs r env) Q E s' | f => Q f s') E s) :
    wpG M A (execs (l ++ r) env) Q E s := fun Γ p hΓ g => by
  rw [execs_append, Sem.wp_bind']
  refine Sem.wp_mono M Γ _ (fun f p' s' h' => ?_) (fun _ _ _ h' => h') _ _ (h Γ p hΓ)
  cases f <;> first | exact h' Γ p' hΓ g | exact h'
theorem G_Return {e pos} {Q : Flow → Shared → Prop} (h : wpG M A (eval e env) (fun v s' => Q (.ret v) s') E s) :
    wpG M A (exec (.Return (some e) pos) env) Q E s := by
  rw [exec_Return_some]
  exact G_standAt (G_bind (G_mono h (fun _ _ x => G_pure x) fun _ _ x => x))
theorem G_Assign_Name {x pos' value pos} {Q : Flow → Shared → Prop}
    (h : wpG M A (eval value env) (fun v s₁ => wpAny M A (storeName env x v) (fun _ => Q .next) E s₁) E s)
    (hs : swapsWith value (some (.Name x pos')) pos.line env = pure false := by rfl) :
    wpG M A (exec (.Assign [.Name x pos'] value pos) env) Q E s := by
  rw [exec_Assign_Name env x pos' value pos hs]
  exact G_standAt (G_last (G_mono h (fun v s₁ h₁ => wpAny_bind (wpAny_standAt (wpAny_bind (wpAny_bindName (wpAny_mono h₁ (fun _ _ q => wpAny_pure q) fun _ _ x => x))))) fun _ _ x => x))
theorem G_If {test body orelse pos} {Q : Flow → Shared → Prop}
    (h : wpG M A (isTrue test env (eval test env))
      (fun b s₂ => if b then wpG M A (execs body env) Q E s₂ else wpG M A (execs orelse env) Q E s₂) E s) :
    wpG M A (exec (.If test body orelse pos) env) Q E s := by
  rw [exec_If]
  refine G_standAt (G_bind (G_mono h (fun b s₂ h₂ => ?_) fun _ _ x => x))
  cases b <;> exact h₂
theorem G_isTrue_not {x pos whole} {Q : Bool → Shared → Prop} (h : wpG M A (isTrue x env (eval x env)) (fun c s' => Q (!c) s') E s) :
    wpG M A (isTrue (.UnaryOp .Not x pos) env whole) Q E s := by
  rw [arm_isTrue_UnaryOp]
  exact G_bind (G_mono h (fun _ _ q => G_pure q) fun _ _ x => x)
theorem G_isTrue_BoolOp {op : BoolOp} {values : List Expr} {pos : Pos} {whole : Sem Value} {Q : Bool → Shared → Prop} (h : wpG M A (allTrue op values env) Q E s) :
    wpG M A (isTrue (.BoolOp op values pos) env whole) Q E s := h
theorem G_or_nil {Q : Bool → Shared → Prop} (h : Q false s) : wpG M A (allTrue .Or [] env) Q E s := G_pure h
theorem G_or_cons {x : Expr} {rest : List Expr} {Q : Bool → Shared → Prop}
    (h : wpG M A (isTrue x env (eval x env)) (fun c s' => if c then Q true s' else wpG M A (allTrue .Or rest env) Q E s') E s) : wpG M A (allTrue .Or (x :: rest) env) Q E s := by
  rw [arm_allTrue_cons]
  refine G_bind (G_mono h (fun c s' h' => ?_) fun _ _ x => x)
  cases c
  · exact h'
  · exact G_pure h'
/-- the truth of a value that a call gives -/
theorem G_isTrue_Call {f : Expr} {args : List Expr} {kw : List Keyword} {pos : Pos} {whole : Sem Value} {Q : Bool → Shared → Prop} (h : wpG M A whole (fun v s₁ => wpAny M A (truthy v) Q E s₁) E s) :
    wpG M A (isTrue (.Call f args kw pos) env whole) Q E s := by
  show wpG M A (do let v ← whole; standAt _; holding [v] (truthy v)) Q E s
  exact G_bind (G_mono h (fun v s₁ h₁ => G_standAt (G_holding (G_any h₁))) fun _ _ x => x)
end
section
variable {prog : Program} {w : World} {A : Around} {E : Value → Shared → Prop} {s : Shared} {env : Env}
theorem G_Expr {e pos} {Q : Flow → Shared → Prop} (h : wpG (model prog w) A (eval e env) (fun _ s' => Q .next s') E s)
    (hi : interactive env = false := by rfl) (hs : swapsWith e none pos.line env = pure false := by rfl) :
    wpG (model prog w) A (exec (.Expr e pos) env) Q E s := by
  rw [exec_Expr env e pos hi hs]
  exact G_standAt (G_bind (G_mono h (fun v s' h' => G_any (wpAny_dropValue h')) fun _ _ x => x))
theorem codeG_func {R : Result → Shared → Prop} {body env}
    (h : wpG (model prog w) (A.deeper env) (execs body env) (fun f s' => R (.ok (.ret (match f with | .ret v => v | _ => .none))) s')
      (fun e s' => wpAny (model prog w) (A.deeper env) (leaving env e) (fun _ s'' => R (.error e) s'') (fun e' s'' => R (.error e') s'') s') s) :
    codeG (model prog w) A (.func body env) R s := by
  refine codeG_of_tree (noLend_other fun _ _ e => by cases e) ?_
  show wpG _ (A.deeper env) (do point; match ← (execs body env).onRaise (leaving env) with | .ret v => ret v | _ => ret .none) _ _ s
  refine G_then (wpAny_point (G_bind (G_onRaise (G_mono h (fun f s' h' => ?_) fun _ _ h' => h'))))
  cases f <;> exact G_pure h'
theorem codeG_call_function {R : Result → Shared → Prop} {a : Addr} {args : Args} {o : Obj} {fd : FuncData} {body : List Stmt} (hroom : A.depth < recursionLimit)
    (ho : s.heap.get? a = some o)
    (hd' : o.data = .func fd) (hco : fd.scope.isCoroutine = false) (hgen : fd.scope.isGenerator = false) (hbody : fd.body = .stmts body) (hcd : s.heap.CodeRec fd.code fd.qualname)
    (h : wpAny (model prog w) A.in1 (bindArgs fd args) (fun binds s₁ =>
      wpAny (model prog w) A.in1 (newFunctionEnv fd.scope fd.globals fd.closure binds (fd.qualname ++ ".<locals>.") (some a) fd.code none fd.builtins)
        (fun env s₂ => s₂.heap.NoLimit ∧ codeG (model prog w) A (.func body env) R s₂) (fun e s' => R (.error e) s') s₁) (fun e s' => R (.error e) s') s) :
    codeG (model prog w) A (.call (.ref a) args) R s := by
  refine codeG_of_tree (noLend_other fun _ _ e => by cases e) (G_any ?_)
  show wpAny _ A.in1 (callAny (.ref a) args) _ _ s
  simp only [callAny]
  refine wpAny_bind (wpAny_load ho ?_)
  obtain ⟨c, oc, vs, tq, hc, hoc, hdc, hq⟩ := hcd
  simp only [hd', callFunction, hco, hgen, hbody, hc]
  rw [hc] at h
  refine wpAny_bind (m := field (.ref c) 1) (wpAny_field hoc hdc hq (wpAny_bind (wpAny_pure ?_)))
  exact wpAny_bind (wpAny_mono h (fun binds s₁ h₁ => wpAny_bind (wpAny_mono h₁ (fun env s₂ h₂ => wpAny_bind (wpAny_enterFrame h₂.1 hroom
    (wpAny_pure (And.intro rfl h₂.2)))) fun _ _ h' => h')) fun _ _ h' => h')
theorem codeG_call_def {R : Result → Shared → Prop} {a : Addr} {o : Obj} {fd : FuncData} {body : List Stmt} {args : Args} {binds : List (Str × Value)}
    (hroom : A.depth < recursionLimit) (ho : s.heap.get? a = some o) (hdata : o.data = .func fd) (hlim : s.heap.NoLimit) (hcd : s.heap.CodeRec fd.code fd.qualname)
    (hbody : fd.body = .stmts body) (hbind : BindsTo s fd args binds)
    (hcell : ∀ x ∈ fd.scope.names, x.2 ≠ .cell) (hloc : ∀ x ∈ binds, fd.scope.names.lookup x.1 = some .local)
    (h : ∀ h₀, h₀.Ns s.heap.objs.size (fun x => binds.reverse.lookup x) → (∀ b o, s.heap.get? b = some o → h₀.get? b = some o) →
      wpG (model prog w) (A.deeper (callEnv fd s.heap.objs.size a)) (execs body (callEnv fd s.heap.objs.size a)) (fun f s' => R (.ok (.ret (match f with | .ret v => v | _ => .none))) s')
        (fun e s' => wpAny (model prog w) (A.deeper (callEnv fd s.heap.objs.size a)) (leaving (callEnv fd s.heap.objs.size a) e) (fun _ s'' => R (.error e) s'') (fun e' s'' => R (.error e') s'') s')
        { s with heap := h₀, toks := s.toks + binds.length })
    (hco : fd.scope.isCoroutine = false := by rfl) (hgen : fd.scope.isGenerator = false := by rfl) (hk : fd.scope.kind = .function := by rfl) :
    codeG (model prog w) A (.call (.ref a) args) R s := by
  refine codeG_call_function hroom ho hdata hco hgen hbody hcd (hbind _ _ _ _ ?_)
  refine wpAny_newFunctionEnv hcell hloc (fun h₀ hns₀ hsb₀ => ⟨hlim.fresh _ hsb₀, codeG_func (h h₀ hns₀ fun b o e => ?_)⟩) hk
  exact hsb₀.extBut b o (Nat.ne_of_lt (Heap.lt_size e)) (Heap.get?_push_of_some _ e)
theorem enterG {base : Heap} {outer : List Env} {K : Frag} {p : Program} {loose : List Str} {mean : ExcName → Option Value} {mg mb : Str → Option Value}
    {R : Result → Shared → Prop} {name qual : Str} {params : Arguments} {body : List Stmt} {scope : Scope} {dV kV doc pm cdv ct oc : Value} {an od : Option Addr} {osl : Array (Option Value)} {f : Addr} {args : Args} {binds : List (Str × Value)}
    (_B : Below A base outer s.heap) (X : K.In s.heap) (T : Top p loose mean mg mb s.heap)
    (ho : K.lookup f = some ⟨oc, od, .func (fnOf name qual params body scope dV kV doc pm an cdv ct), osl⟩) (hcd : codeIn K cdv qual = true) (hroom : A.depth < recursionLimit)
    (hbind : BindsTo s (fnOf name qual params body scope dV kV doc pm an cdv ct) args binds) (hloc : ∀ y ∈ binds, scope.names.lookup y.1 = some .local)
    (h : ∀ L' h₁, Fr s.heap L' h₁ (fun y => binds.reverse.lookup y) → News s.heap L' h₁ [] →
      wpG (model prog w) (A.deeper (envOf qual scope L' f cdv)) (execs body (envOf qual scope L' f cdv))
        (fun fl s' => R (.ok (.ret (match fl with | .ret v => v | _ => .none))) s')
        (fun e s' => wpAny (model prog w) (A.deeper (envOf qual scope L' f cdv)) (leaving (envOf qual scope L' f cdv) e) (fun _ s'' => R (.error e) s'') (fun e' s'' => R (.error e') s'') s')
        { s with heap := h₁, toks := s.toks + binds.length })
    (hco : scope.isCoroutine = false) (hgen : scope.isGenerator = false) (hk : scope.kind = .function)
    (hcell : ∀ x ∈ scope.names, x.2 ≠ .cell) : codeG (model prog w) A (.call (.ref f) args) R s :=
  codeG_call_def (fd := fnOf name qual params body scope dV kV doc pm an cdv ct) (body := body) (binds := binds) hroom (X _ _ ho) rfl T.nolimit (codeRec_of X hcd) rfl hbind hcell hloc
    (fun h₁ hns hk₁ => h _ h₁ ⟨hns, hk₁, Nat.le_refl _⟩ (fun _ hp => nomatch hp)) hco hgen hk
end
end Mine
namespace Mine
namespace BA
open PySem.Builtin
theorem slot_iter : Slot "bytearray" "__iter__" "bytearray.__iter__" :=
  .of (owner := "bytearray") (n := "__iter__") (by rw [typeLookup_type, builtinLookup_eq_fast]; kernel_rfl) (by decide +kernel) (by decide +kernel) (by decide +kernel)
    (by first | exact .inl (by decide +kernel) | exact .inr (by decide +kernel)) (by rw [isSubtype_type]; kernel_rfl)
theorem entry_iter : entryFor table "bytearray.__iter__" = some Builtin.«bytearray.__iter__» := entryFor_of_tree (by kernel_rfl)
theorem args_iter (a : Value) : argsOk "bytearray.__iter__" ⟨[a], []⟩ := by unfold argsOk; kernel_rfl
theorem slot_next : Slot "bytearray_iterator" "__next__" "bytearray_iterator.__next__" :=
  .of (owner := "bytearray_iterator") (n := "__next__") (by rw [typeLookup_type, builtinLookup_eq_fast]; kernel_rfl) (by decide +kernel) (by decide +kernel) (by decide +kernel)
    (by first | exact .inl (by decide +kernel) | exact .inr (by decide +kernel)) (by rw [isSubtype_type]; kernel_rfl)
theorem entry_next : entryFor table "bytearray_iterator.__next__" = some Builtin.«bytearray_iterator.__next__» := entryFor_of_tree (by kernel_rfl)
theorem args_next (a : Value) : argsOk "bytearray_iterator.__next__" ⟨[a], []⟩ := by unfold argsOk; kernel_rfl
theorem slot_self : Slot "bytearray_iterator" "__iter__" "bytearray_iterator.__iter__" :=
  .of (owner := "bytearray_iterator") (n := "__iter__") (by rw [typeLookup_type, builtinLookup_eq_fast]; kernel_rfl) (by decide +kernel) (by decide +kernel) (by decide +kernel)
    (by first | exact .inl (by decide +kernel) | exact .inr (by decide +kernel)) (by rw [isSubtype_type]; kernel_rfl)
theorem entry_self : entryFor table "bytearray_iterator.__iter__" = some Builtin.«dict_keyiterator.__iter__» := entryFor_alias (id' := "dict_keyiterator.__iter__") (by kernel_rfl) rfl (by decide +kernel) (by kernel_rfl)
theorem args_self (a : Value) : argsOk "bytearray_iterator.__iter__" ⟨[a], []⟩ := by unfold argsOk; kernel_rfl
/-- a bytearray's object -/
abbrev barr (b : Array UInt8) : Obj := { cls := .type "bytearray", data := .bytearray b }
def Iter (h : Heap) (a l : Addr) (i : Nat) : Prop := ∃ o, h.get? a = some o ∧ o.cls = .type "bytearray_iterator" ∧ o.data = .fields #[.ref l, .int i 0]
theorem Iter.typeIs {s : Shared} {a l : Addr} {i : Nat} (y : Iter s.heap a l i) : s.TypeIs (.ref a) "bytearray_iterator" := let ⟨o, ho, hc, _⟩ := y; ⟨o, ho, hc⟩
section
variable {prog : Program} {w : World} {A : Around} {E : Value → Shared → Prop} {s : Shared} {b : Array UInt8} {l : Addr}
theorem pyIter_ba {Q : Value → Shared → Prop} (hl : s.heap.get? l = some (barr b))
    (hQ : Q (.ref s.heap.objs.size) { s with heap := s.heap.push { cls := .type "bytearray_iterator", data := .fields #[.ref l, .int 0 0] } }) : wpAny (model prog w) A (pyIter (.ref l)) Q E s := by
  have hT : s.TypeIs (.ref l) "bytearray" := ⟨_, hl, rfl⟩
  refine wpAny_pyIter_slot hT slot_iter (wpAny_call_entry slot_iter hT entry_iter ?_ (args_iter _))
  show wpAny _ _ (do ret (← newFields "bytearray_iterator" [.ref l, rawInt 0])) _ _ s
  exact wpAny_bind (wpAny_newObj_type (wpAny_pure ⟨_, rfl, "bytearray_iterator", _, ⟨_, Heap.get?_push_size _ rfl, rfl⟩, slot_next.lookup, hQ⟩))
theorem pyIter_self {it : Addr} {i : Nat} {Q : Value → Shared → Prop} (hit : Iter s.heap it l i) (h : Q (.ref it) s) : wpAny (model prog w) A (pyIter (.ref it)) Q E s := by
  refine wpAny_pyIter_slot hit.typeIs slot_self (wpAny_call_entry slot_self hit.typeIs entry_self ?_ (args_self _))
  show wpAny _ _ (ret (.ref it)) _ _ s
  exact wpAny_pure ⟨_, rfl, "bytearray_iterator", _, hit.typeIs, slot_next.lookup, h⟩
theorem next_item {it : Addr} {i : Nat} {c : UInt8} {Q : Option Value → Shared → Prop} (hit : Iter s.heap it l i) (hl : s.heap.get? l = some (barr b)) (hx : b[i]? = some c)
    (hQ : ∀ h', Iter h' it l (i + 1) → Heap.SameBut it s.heap h' → Q (some (.int (c.toNat : Int) s.toks)) { s with heap := h', toks := s.toks + 1 }) : wpAny (model prog w) A (pyNext (.ref it)) Q E s := by
  obtain ⟨o, ho, hc, hd⟩ := id hit
  unfold pyNext
  refine wpAny_bind (wpAny_attempt (wpAny_callSpecial?_slot (name := PySem.Str.ofString "__next__") hit.typeIs slot_next
    (wpAny_call_entry slot_next hit.typeIs entry_next ?_ (args_next _))))
  show wpAny _ _ (field (.ref it) 0 >>= _) _ _ s
  refine wpAny_bind (wpAny_field ho hd (x := .ref l) rfl ?_)
  show wpAny _ _ (load l >>= _) _ _ s
  refine wpAny_bind (wpAny_load hl ?_)
  show wpAny _ _ (field (.ref it) 1 >>= _) _ _ s
  refine wpAny_bind (wpAny_field ho hd (x := .int i 0) rfl ?_)
  dsimp only
  rw [Int.toNat_natCast, hx]
  refine wpAny_bind (wpAny_setField ho hd (by simp) (wpAny_bind (wpAny_mkInt (wpAny_pure ⟨_, rfl, wpAny_pure (hQ _ ?_ (Heap.SameBut.update ..))⟩))))
  exact ⟨_, Heap.get?_update_self _ ho (Obj.isFreed_of_fields (Obj.data_mapFields hd _)), (Obj.cls_mapFields ..).trans hc, by
    rw [Obj.data_mapFields hd]; simp [rawInt]⟩
theorem next_end {it : Addr} {i : Nat} {Q : Option Value → Shared → Prop} (hh : A.handled = none) (hit : Iter s.heap it l i) (hl : s.heap.get? l = some (barr b)) (hx : b[i]? = none)
    (hQ : ∀ h', Heap.ExtBut it s.heap h' → Q none { s with heap := h' }) : wpAny (model prog w) A (pyNext (.ref it)) Q E s := by
  obtain ⟨o, ho, hc, hd⟩ := id hit
  unfold pyNext
  refine wpAny_bind (wpAny_attempt (wpAny_callSpecial?_slot (name := PySem.Str.ofString "__next__") hit.typeIs slot_next
    (wpAny_call_entry slot_next hit.typeIs entry_next ?_ (args_next _))))
  show wpAny _ _ (field (.ref it) 0 >>= _) _ _ s
  refine wpAny_bind (wpAny_field ho hd (x := .ref l) rfl ?_)
  show wpAny _ _ (load l >>= _) _ _ s
  refine wpAny_bind (wpAny_load hl ?_)
  show wpAny _ _ (field (.ref it) 1 >>= _) _ _ s
  refine wpAny_bind (wpAny_field ho hd (x := .int i 0) rfl ?_)
  dsimp only
  rw [Int.toNat_natCast, hx]
  refine wpAny_bind (wpAny_rule (wpAny_bind (wpAny_setField ho hd (by simp) ?_)))
  refine wpAny_bind (wpAny_letGo ?_)
  show wpAny _ _ (newExc (.type "StopIteration") [] >>= _) _ _ _
  refine wpAny_bind ?_
  simp only [newExc, newTuple]
  refine wpAny_bind (wpAny_newObj_type ?_ (by size_fits))
  refine wpAny_bind (m := firstArgMember _ _) (wpAny_of_eq (a := Value.none) (by first | rfl | (simp only [firstArgMember]; rfl)) ?_)
  refine wpAny_newObj_type ?_ (by size_fits)
  simp only [raiseNew]
  refine wpAny_bind (wpAny_handled ?_)
  rw [show A.in1.handled = none from hh]
  refine wpAny_bind (wpAny_pure (wpAny_throw ?_))
  refine wpAny_bind (wpAny_isInstance (T := "StopIteration") (b := true) ⟨_, Heap.get?_push_size _ rfl, rfl⟩ isSubtype_stop ?_)
  exact wpAny_pure (hQ _ (((Heap.SameBut.update ..).extBut.push _).push _))
end
/-- a bytearray walked, item by item -/
theorem walks {prog : Program} {w : World} {A : Around} (hh : A.handled = none) (I l : Addr) (hne : l ≠ I) (b : Array UInt8) :
    Walks prog w A I [I, l] [I] b.size (fun i v => ∃ c u, b[i]? = some c ∧ v = .int (c.toNat : Int) u) (fun i h => Iter h I l i ∧ h.get? l = some (barr b)) where
  sub := fun _ hb => by rw [List.mem_singleton.mp hb]; exact .head _
  frame := fun _ _ _ st hk => ⟨let ⟨o, ho, r⟩ := st.1; ⟨o, hk I (by simp) o ho, r⟩, hk l (by simp) _ st.2⟩
  item := fun i s Q E hi st hQ => by
    refine next_item st.1 st.2 (c := b[i]) (by simp [hi]) fun h' hit' hs' => ?_
    exact hQ _ h' (s.toks + 1) ⟨_, _, by simp [hi], rfl⟩ ⟨hit', (hs'.2 l hne).trans st.2⟩ fun b o hb e => hs'.extBut b o (fun h => hb (by simp [h])) e
  done := fun s Q E st hQ => next_end hh st.1 st.2 (by simp) fun h' he' => hQ h' s.toks fun b o hb e => he' b o (fun h => hb (by simp [h])) e
  self := fun _ _ _ _ st hQ => pyIter_self st.1 hQ
end BA
end Mine
namespace Mine
/-- a row of ints in one of the four dresses -/
inductive Handed (h : Heap) : Value → List Int → Prop where
  | list {a : Addr} {vs : List Value} {ns : List Int} : h.IsList a vs.toArray → IntsAre vs ns → Handed h (.ref a) ns
  | tuple {a : Addr} {vs : List Value} {ns : List Int} : h.IsTuple a vs.toArray → IntsAre vs ns → Handed h (.ref a) ns
  | bytes {ns : List Int} {t : Tok} : (∀ n ∈ ns, 0 ≤ n ∧ n < 256) → Handed h (.bytes (byteArr ns) t) ns
  | barr {a : Addr} {ns : List Int} : (∀ n ∈ ns, 0 ≤ n ∧ n < 256) → h.get? a = some (BA.barr (byteArr ns)) → Handed h (.ref a) ns
theorem Handed.keeps {h h' : Heap} {v : Value} {ns : List Int} (H : Handed h v ns) (hk : ∀ b o, h.get? b = some o → h'.get? b = some o) : Handed h' v ns := by
  cases H with
  | list hl hi => exact .list (let ⟨o, ho, r⟩ := hl; ⟨o, hk _ _ ho, r⟩) hi
  | tuple hl hi => exact .tuple (let ⟨o, ho, r⟩ := hl; ⟨o, hk _ _ ho, r⟩) hi
  | bytes hr => exact .bytes hr
  | barr hr hl => exact .barr hr (hk _ _ hl)
theorem byteArr_at {ns : List Int} (hr : ∀ n ∈ ns, 0 ≤ n ∧ n < 256) {i : Nat} {c : UInt8} (h : (byteArr ns)[i]? = some c) : ns[i]? = some (c.toNat : Int) := by
  have e : KBw.bInts (byteArr ns) = ns := KBa.ints_make hr
  rw [← e]; exact KBw.ints_get h
section
variable {prog : Program} {w : World} {A : Around} {E : Value → Shared → Prop} {s : Shared} {env : Env} {h₀ : Heap} {x : Str} {body : List Stmt} {Q : Flow → Shared → Prop} {m₀ : Str → Option Value} {news : List (Addr × Obj)}
theorem iter_handed {σ : Type} {v : Value} {ns : List Int} (R : σ → (Str → Option Value) → List (Addr × Obj) → Prop) (g : σ → Int → σ) (c₀ : σ) (H : Handed h₀ v ns)
    (hh : A.handled = none) (F : Fr h₀ env.locals s.heap m₀) (N : News h₀ env.locals s.heap news) (hR : R c₀ m₀ news)
    (turn : ∀ k t a m₁ nx h tk own, k ∈ ns → OwnOff own (news.map (·.1)) → R a m₁ nx → Fr h₀ env.locals h (fun y => if y = x then some (.int k t) else m₁ y) → News h₀ env.locals h (nx ++ own) →
      wpAny (model prog w) A (execs body env) (InvPostN h₀ env.locals (R (g a k)) own (news.map (·.1)) { s with heap := h, toks := tk } Q) E { s with heap := h, toks := tk })
    (done : ∀ m₁ nx h tk, R (ns.foldl g c₀) m₁ nx → Fr h₀ env.locals h m₁ → News h₀ env.locals h nx → Q .next { s with heap := h, toks := tk }) :
    wpAny (model prog w) A (pyIter v) (fun it s₂ => LoopAtV prog w A h₀ env x body Q E it s₂) E s := by
  cases H with
  | list hl hi => exact iter_listS R g c₀ hh hl hi F N hR turn done
  | tuple hl hi =>
    rename_i l vs
    obtain ⟨ol, hol, hcl, nl, hdl⟩ := id hl
    have hls : s.heap.IsTuple l vs.toArray := ⟨ol, F.keep _ _ hol, hcl, nl, hdl⟩
    have hlt : l < h₀.objs.size := Heap.lt_size hol
    have hne : l ≠ s.heap.objs.size := Nat.ne_of_lt (Nat.lt_trans (Nat.lt_of_lt_of_le hlt F.above) F.ns.lt)
    refine wpAny_pyIter_tuple hls ?_
    have W := Walks.tuple (prog := prog) (w := w) hh s.heap.objs.size l hne vs.toArray
    refine loop_accS (ks := ns) R g c₀ W ⟨by simp [hi.length], ?_⟩ ?_ ?_ ?_ ?_ ⟨⟨_, Heap.get?_push_size _ rfl, rfl, rfl⟩, hls.push _⟩ (F.push _) (fun p hp => ⟨Heap.get?_push_of_some _ (N p hp).1, (N p hp).2⟩) hR turn done
    · intro i v _ hP
      obtain ⟨n, t, e, hn⟩ := hi.at i v (by simpa using hP)
      exact ⟨n, t, hn, e⟩
    · intro hm
      rcases List.mem_cons.mp hm with e | hm
      · exact absurd F.ns.lt (e ▸ Nat.lt_irrefl _)
      · exact absurd (Nat.lt_of_lt_of_le hlt F.above) ((List.mem_singleton.mp hm) ▸ Nat.lt_irrefl _)
    · intro b' hb
      rw [List.mem_singleton.mp hb]
      exact next_is_new F
    · intro p hp hI
      exact absurd (Heap.lt_size (N p hp).1) ((List.mem_singleton.mp hI) ▸ Nat.lt_irrefl _)
    · intro p hp hI
      rcases List.mem_cons.mp hI with e | hm
      · exact absurd (Heap.lt_size (N p hp).1) (e ▸ Nat.lt_irrefl _)
      · have := (N p hp).2.2
        rw [List.mem_singleton.mp hm, hol] at this
        cases this
  | bytes hr => exact KBw.iter_bytesS R g c₀ (KBa.ints_make hr) hh F N hR (fun k t a m₁ nx h tk own hk _ _ => turn k t a m₁ nx h tk own hk) done
  | barr hr hl =>
    rename_i l
    have hls : s.heap.get? l = some (BA.barr (byteArr ns)) := F.keep _ _ hl
    have hlt : l < h₀.objs.size := Heap.lt_size hl
    have hne : l ≠ s.heap.objs.size := Nat.ne_of_lt (Nat.lt_trans (Nat.lt_of_lt_of_le hlt F.above) F.ns.lt)
    refine BA.pyIter_ba hls ?_
    have W := BA.walks (prog := prog) (w := w) hh s.heap.objs.size l hne (byteArr ns)
    refine loop_accS (ks := ns) R g c₀ W ⟨by rw [byteArr_size], ?_⟩ ?_ ?_ ?_ ?_ ⟨⟨_, Heap.get?_push_size _ rfl, rfl, rfl⟩, Heap.get?_push_of_some _ hls⟩ (F.push _) (fun p hp => ⟨Heap.get?_push_of_some _ (N p hp).1, (N p hp).2⟩) hR turn done
    · rintro i v _ ⟨c, u, hc, rfl⟩
      exact ⟨_, u, byteArr_at hr hc, rfl⟩
    · intro hm
      rcases List.mem_cons.mp hm with e | hm
      · exact absurd F.ns.lt (e ▸ Nat.lt_irrefl _)
      · exact absurd (Nat.lt_of_lt_of_le hlt F.above) ((List.mem_singleton.mp hm) ▸ Nat.lt_irrefl _)
    · intro b' hb
      rw [List.mem_singleton.mp hb]
      exact next_is_new F
    · intro p hp hI
      exact absurd (Heap.lt_size (N p hp).1) ((List.mem_singleton.mp hI) ▸ Nat.lt_irrefl _)
    · intro p hp hI
      rcases List.mem_cons.mp hI with e | hm
      · exact absurd (Heap.lt_size (N p hp).1) (e ▸ Nat.lt_irrefl _)
      · have := (N p hp).2.2
        rw [List.mem_singleton.mp hm, hl] at this
        cases this
end
end Mine
namespace Mine
namespace BA
open PySem.Builtin
theorem slot_len : Slot "bytearray" "__len__" "bytearray.__len__" :=
  .of (owner := "bytearray") (n := "__len__") (by rw [typeLookup_type, builtinLookup_eq_fast]; kernel_rfl) (by decide +kernel) (by decide +kernel) (by decide +kernel)
    (by first | exact .inl (by decide +kernel) | exact .inr (by decide +kernel)) (by rw [isSubtype_type]; kernel_rfl)
section
variable {prog : Program} {w : World} {A : Around} {E : Value → Shared → Prop} {s : Shared}
theorem hint_bytes {b : Array UInt8} {t : Tok} {Q : Bool → Shared → Prop} (h : Q false s) : wpAny (model prog w) A (List.listLengthHint (.bytes b t)) Q E s := by
  unfold Builtin.List.listLengthHint
  refine wpAny_bind (wpAny_specialOf (PySem.W.typeIs_bytes s b t) FB.slot_bytes_len.lookup ?_)
  wp_delta
  refine wpAny_bind (wpAny_isInstance (T := "bytes") (b := true) (PySem.W.typeIs_bytes s b t) (by rw [isSubtype_type]; kernel_rfl) ?_)
  show wpAny _ A (typeOf (Value.bytes b t) >>= _) _ _ _
  refine wpAny_bind (wpAny_typeOf (PySem.W.typeIs_bytes s b t) ?_)
  exact wpAny_pure h
theorem hint_ba {l : Addr} {Q : Bool → Shared → Prop} (hT : s.TypeIs (.ref l) "bytearray") (h : Q false s) : wpAny (model prog w) A (List.listLengthHint (.ref l)) Q E s := by
  unfold Builtin.List.listLengthHint
  refine wpAny_bind (wpAny_specialOf hT slot_len.lookup ?_)
  wp_delta
  refine wpAny_bind (wpAny_isInstance (T := "bytearray") (b := true) hT (by rw [isSubtype_type]; kernel_rfl) ?_)
  show wpAny _ A (typeOf (Value.ref l) >>= _) _ _ _
  refine wpAny_bind (wpAny_typeOf hT ?_)
  exact wpAny_pure h
end
end BA
/-- what an iterable that is no list and no tuple owes: an iterator that walks it -/
structure Iterates (prog : Program) (w : World) (g : Heap) (v : Value) (n : Nat) (P : Nat → Value → Prop) : Prop where
  type : ∃ T, (∀ s : Shared, (∀ b o, g.get? b = some o → s.heap.get? b = some o) → s.TypeIs v T) ∧ (Value.type T == Value.type "list") = false ∧ (Value.type T == Value.type "tuple") = false ∧
    ((["set", "frozenset", "dict", "dict_keys", "dict_values", "dict_items"] : List String).any fun x => Value.type T == Value.type x) = false
  apart : ∀ S, g.get? S = none → Builtin.List.listSameRef (.ref S) v = false
  iter : ∀ (A : Around) (s : Shared) (Q : Value → Shared → Prop) (E : Value → Shared → Prop), A.handled = none → (∀ b o, g.get? b = some o → s.heap.get? b = some o) →
    (∀ o fp St, (∀ b ∈ fp, b = s.heap.objs.size ∨ ∃ o, g.get? b = some o) → (∀ (A' : Around), A'.handled = none → Walks prog w A' s.heap.objs.size fp [s.heap.objs.size] n P St) → St 0 (s.heap.push o) →
      Q (.ref s.heap.objs.size) { s with heap := s.heap.push o }) → wpAny (model prog w) A (pyIter v) Q E s
  hint : ∀ (A : Around) (s : Shared) (Q : Bool → Shared → Prop) (E : Value → Shared → Prop), (∀ b o, g.get? b = some o → s.heap.get? b = some o) → Q false s → wpAny (model prog w) A (Builtin.List.listLengthHint v) Q E s
theorem iterates_bytes {prog : Program} {w : World} {g : Heap} (b : Array UInt8) (t : Tok) : Iterates prog w g (.bytes b t) b.size (fun i v => ∃ c u, b[i]? = some c ∧ v = .int (c.toNat : Int) u) where
  type := ⟨"bytes", fun s _ => PySem.W.typeIs_bytes s b t, by decide, by decide, by decide⟩
  apart := fun _ _ => rfl
  iter := fun A s Q E hh _ h => KBw.pyIter_bytes (h _ [s.heap.objs.size] (fun i h => KBw.IsBytesIter h s.heap.objs.size b t i) (fun x hx => .inl (List.mem_singleton.mp hx)) (fun A' hh' => KBw.walks hh' _ b t) ⟨_, Heap.get?_push_size _ rfl, rfl, rfl⟩)
  hint := fun A s Q E _ h => BA.hint_bytes h
theorem iterates_ba {prog : Program} {w : World} {g : Heap} {l : Addr} {b : Array UInt8} (hl : g.get? l = some (BA.barr b)) : Iterates prog w g (.ref l) b.size (fun i v => ∃ c u, b[i]? = some c ∧ v = .int (c.toNat : Int) u) where
  type := ⟨"bytearray", fun s hk => ⟨_, hk _ _ hl, rfl⟩, by decide, by decide, by decide⟩
  apart := fun S hS => by
    show (S == l) = false
    exact beq_eq_false_iff_ne.mpr fun e => by rw [e, hl] at hS; cases hS
  iter := fun A s Q E hh hk h => BA.pyIter_ba (hk _ _ hl) (h _ [s.heap.objs.size, l] (fun i h => BA.Iter h s.heap.objs.size l i ∧ h.get? l = some (BA.barr b))
    (fun x hx => by rcases List.mem_cons.mp hx with e | hx; exact .inl e; exact .inr ⟨_, by rw [List.mem_singleton.mp hx]; exact hl⟩)
    (fun A' hh' => BA.walks hh' _ l (Nat.ne_of_lt (Heap.lt_size (hk _ _ hl))) b) ⟨⟨_, Heap.get?_push_size _ rfl, rfl, rfl⟩, Heap.get?_push_of_some _ (hk _ _ hl)⟩)
  hint := fun A s Q E hk h => BA.hint_ba ⟨_, hk _ _ hl, rfl⟩ h
section
variable {prog : Program} {w : World} {A : Around} {E : Value → Shared → Prop} {s : Shared} {g : Heap} {v : Value} {n : Nat} {P : Nat → Value → Prop}
theorem extend_walk {R : Result → Shared → Prop} {S : Addr} {res : Value} {c₀ : Nat} (I : Iterates prog w g v n P) (hk : ∀ b o, g.get? b = some o → s.heap.get? b = some o) (hh : A.handled = none) (hn : n ≤ sizeLine) (hg : g.get? S = none)
    (hS : s.heap.get? S = some { cls := .type "list", data := .seq #[] c₀ })
    (hR : ∀ h' tk acc' c', (∀ b o, b ≠ S → s.heap.get? b = some o → h'.get? b = some o) → h'.get? S = some { cls := .type "list", dict := none, data := .seq acc' c', slots := #[] } → ItemsOf P acc' n → R (.ok (.ret res)) { s with heap := h', toks := tk }) :
    wpAny (model prog w) A.in1 (Builtin.List.listExtendWith (.ref S) v res)
      (fun fin s' => match fin with | .done f => R (.ok f) s' | .again c' => c'.quiet = true ∧ codeAny (model prog w) A c' R s') (fun e s' => R (.error e) s') s := by
  obtain ⟨T, hT, h2, h3, h4⟩ := I.type
  unfold Builtin.List.listExtendWith
  refine wpAny_bind (wpAny_typeOf (hT s hk) ?_)
  simp only [I.apart S hg, h2, h3, Bool.or_false, Bool.false_eq_true, if_false]
  refine wpAny_bind (I.iter _ _ _ _ hh hk fun o fp St hfp W hst => ?_)
  have hlt : S < s.heap.objs.size := Heap.lt_size hS
  have hSf : S ∉ fp := fun hm => by
    rcases hfp S hm with e | ⟨o, e⟩
    · exact absurd hlt (e ▸ Nat.lt_irrefl _)
    · rw [hg] at e; cases e
  refine wpAny_bind (wpAny_holding (I.hint _ _ _ _ (fun b o e => Heap.get?_push_of_some _ (hk b o e)) ?_))
  refine bm_if_false (by exact h4) ?_
  refine wpAny_pure ⟨plainId_quiet F.plain_extend_loop _, codeAny_extend_loopS (W A.in1 hh).toS hn S hSf res n 0 _ #[] c₀ rfl (Nat.zero_le _) hst (Heap.get?_push_of_some _ hS) (ItemsOf.nil _) fun s' acc' c' hm hS' hacc => ?_⟩
  rw [Moved.eq_with hm]
  refine hR s'.heap s'.toks acc' c' (fun b o hb e => hm.heap b o (fun hmem => ?_) (Heap.get?_push_of_some _ e)) hS' hacc
  rcases List.mem_cons.mp hmem with e' | hmem
  · exact hb e'
  · exact absurd (Heap.lt_size e) (by rw [List.mem_singleton.mp hmem]; exact Nat.lt_irrefl _)
theorem collect_walk {Q : List Value → Shared → Prop} (I : Iterates prog w s.heap v n P) (hh : A.handled = none) (hn : n ≤ sizeLine)
    (hQ : ∀ h' tk acc, (∀ b o, s.heap.get? b = some o → h'.get? b = some o) → ItemsOf P acc n → Q acc.toList { s with heap := h', toks := tk }) :
    wpAny (model prog w) A (collect v) Q E s := by
  unfold collect
  refine wpAny_bind (wpAny_runValue (codeAny_builtin F.entry_proto_collect ?_))
  rw [Around.under_plainId F.plain_proto_collect _]
  show wpAny _ A.in1 (newList [] >>= fun l => again (.builtin "list.__iadd__" ⟨[l, v], []⟩)) _ _ s
  refine wpAny_bind (wpAny_newObj_type ?_)
  refine wpAny_pure ⟨plainId_quiet F.plain_list_iadd _, codeAny_builtin F.entry_list_iadd ?_⟩
  rw [Around.under_plainId F.plain_list_iadd _]
  show wpAny _ A.in1 (Builtin.List.listExtendWith (.ref s.heap.objs.size) v (.ref s.heap.objs.size)) _ _ _
  have hfree : s.heap.get? s.heap.objs.size = none := by
    cases q : s.heap.get? s.heap.objs.size with
    | none => rfl
    | some o => exact absurd (Heap.lt_size q) (Nat.lt_irrefl _)
  refine wpAny_mono (extend_walk (R := fun r s' => ∃ h' tk acc' c', r = .ok (.ret (.ref s.heap.objs.size)) ∧ s' = { s with heap := h', toks := tk } ∧ (∀ b o, s.heap.get? b = some o → h'.get? b = some o) ∧
      h'.get? s.heap.objs.size = some { cls := .type "list", dict := none, data := .seq acc' c', slots := #[] } ∧ ItemsOf P acc' n)
    (s := { s with heap := s.heap.push { cls := .type "list", data := .seq ([] : List Value).toArray } }) I (fun b o e => Heap.get?_push_of_some _ e) hh hn hfree (Heap.get?_push_size _ rfl) fun h' tk acc' c' hk hS' hacc => ?_) (fun fin s' hf => ?_) fun e s' hf => ?_
  · exact ⟨h', tk, acc', c', rfl, rfl, fun b o e => hk b o (fun q => Nat.lt_irrefl _ (q ▸ Heap.lt_size e)) (Heap.get?_push_of_some _ e), hS', hacc⟩
  · have out : ∀ h' tk acc' c', (∀ b o, s.heap.get? b = some o → h'.get? b = some o) → h'.get? s.heap.objs.size = some { cls := .type "list", dict := none, data := .seq acc' c', slots := #[] } → ItemsOf P acc' n →
        wpAny (model prog w) A (match Value.ref s.heap.objs.size with
            | .ref a => do
              match (← load a).data with
              | .seq xs _ => pure xs.toList
              | _ => unsupported "internal:collect"
            | _ => unsupported "internal:collect") Q E { s with heap := h', toks := tk } := by
      intro h' tk acc' c' hk hS' hacc
      show wpAny _ A (load s.heap.objs.size >>= _) _ _ _
      refine wpAny_bind (wpAny_load hS' ?_)
      exact wpAny_pure (hQ h' tk acc' hk hacc)
    cases fin with
    | done f =>
      obtain ⟨h', tk, acc', c', q, rfl, hk, hS', hacc⟩ := hf
      cases q
      exact out h' tk acc' c' hk hS' hacc
    | again c' => exact ⟨hf.1, codeAny_mono hf.2 fun r s'' hr => by
        obtain ⟨h', tk, acc', c', rfl, rfl, hk, hS', hacc⟩ := hr
        exact out h' tk acc' c' hk hS' hacc⟩
  · obtain ⟨_, _, _, _, q, _⟩ := hf
    cases q
end
theorem meets_tuple_new_walk {prog : Program} {w : World} {v : Value} {n : Nat} {P : Nat → Value → Prop} (hn : n ≤ sizeLine) :
    MeetsIn prog w (Builtin.«tuple.__new__» ⟨[.type "tuple", v], []⟩)
      (fun A R s => A.handled = none ∧ Iterates prog w s.heap v n P ∧ ∀ (h' : Heap) (tk : Nat) (acc : Array Value), (∀ b o, s.heap.get? b = some o → h'.get? b = some o) → ItemsOf P acc n →
        R (.ok (.ret (.ref h'.objs.size))) { s with heap := h'.push { cls := .type "tuple", data := .seq acc }, toks := tk }) :=
  .of_wp fun A R s h => by
    obtain ⟨hh, I, h⟩ := h
    obtain ⟨T, hT, h2, h3, h4⟩ := I.type
    have hT := hT s fun _ _ e => e
    have hsub := sub_tuple_self
    have hinit := init_tuple_lookup
    have hmh := madeHere_tuple
    have hh1 : A.in1.handled = none := hh
    wp_walk using wpAny_typeOf hT, collect_walk I hh1 hn
    intro h' tk acc hk hacc
    show wpAny _ _ (Builtin.Tuple.tupleExact acc.toList.toArray >>= fun v => ret v) _ _ _
    unfold Builtin.Tuple.tupleExact
    refine wpAny_bind (wpAny_newObj_type ?_ (show acc.toList.toArray.size ≤ sizeLine by simp only [Array.toArray_toList]; rw [hacc.1]; exact hn))
    refine wpAny_pure ⟨_, rfl, ?_⟩
    have e : acc.toList.toArray = acc := by simp
    rw [e]
    exact h h' tk acc hk hacc
section
variable {prog : Program} {w : World} {A : Around} {E : Value → Shared → Prop} {s : Shared} {v : Value} {n : Nat} {P : Nat → Value → Prop}
theorem call_tuple_walk {Q : Value → Shared → Prop} (I : Iterates prog w s.heap v n P) (hh : A.handled = none) (hn : n ≤ sizeLine)
    (h : ∀ (h' : Heap) (tk : Nat) (acc : Array Value), (∀ b o, s.heap.get? b = some o → h'.get? b = some o) → ItemsOf P acc n → Q (.ref h'.objs.size) { s with heap := h'.push { cls := .type "tuple", data := .seq acc }, toks := tk }) :
    wpAny (model prog w) A (call (.type "tuple") [v]) Q E s :=
  callType_meetsIn F.called_tuple (F.typeCall_tuple_1 _) (F.newCall_tuple_1 _) F.entry_tuple_new F.entry_object_init (meets_tuple_new_walk hn)
    (Q₁ := fun obj s₁ => s₁.TypeIs obj "tuple" ∧ Q obj s₁) ⟨hh, I, fun h' tk acc hk hacc => ⟨⟨_, Heap.get?_push_size _ rfl, rfl⟩, h h' tk acc hk hacc⟩⟩
    fun obj _ hq => ⟨hq.1, F.args_object_init_2 obj _, _, object_init_meets F.called_tuple.init.lookup F.called_tuple.made (by decide), hq.1, rfl, hq.2⟩
theorem list_init_walk {R : Result → Shared → Prop} {S : Addr} {g : Heap} (I : Iterates prog w g v n P) (hk : ∀ b o, g.get? b = some o → s.heap.get? b = some o) (hh : A.handled = none) (hn : n ≤ sizeLine) (hg : g.get? S = none)
    (hS : s.heap.get? S = some { cls := .type "list", data := .seq #[] })
    (hR : ∀ h' tk acc' c', (∀ b o, b ≠ S → s.heap.get? b = some o → h'.get? b = some o) → h'.get? S = some { cls := .type "list", dict := none, data := .seq acc' c', slots := #[] } → ItemsOf P acc' n → R (.ok (.ret .none)) { s with heap := h', toks := tk }) :
    wpAny (model prog w) A.in1 (Builtin.«list.__init__» ⟨[.ref S, v], []⟩)
      (fun fin s' => match fin with | .done f => R (.ok f) s' | .again c' => c'.quiet = true ∧ codeAny (model prog w) A c' R s') (fun e s' => R (.error e) s') s := by
  show wpAny _ _ (do let old ← Builtin.List.listItems (.ref S); Builtin.List.listUpdate (.ref S) (fun _ => #[]); letGo old.toList.reverse; Builtin.List.listExtendWith (.ref S) v .none) _ _ s
  refine wpAny_bind ?_
  unfold Builtin.List.listItems
  refine wpAny_bind (wpAny_seqItems hS rfl (wpAny_pure ?_))
  show wpAny _ _ (updateSeq S (fun _ => #[]) >>= fun _ => letGo (#[] : Array Value).toList.reverse >>= fun _ => Builtin.List.listExtendWith (.ref S) v .none) _ _ s
  refine wpAny_bind (wpAny_updateSeq hS rfl ?_)
  have hS₂ := Heap.get?_update_self (Obj.mapSeq (fun _ => (#[] : Array Value))) hS rfl
  have oth : ∀ b o, b ≠ S → s.heap.get? b = some o → (s.heap.update S (Obj.mapSeq (fun _ => (#[] : Array Value)))).get? b = some o :=
    fun b o hb e => (Heap.get?_update_other _ _ (Ne.symm hb)).trans e
  refine wpAny_bind (wpAny_letGo ?_)
  refine extend_walk I (fun b o e => oth b o (fun q => by rw [q, hg] at e; cases e) (hk b o e)) hh hn hg hS₂ fun h' tk acc' c' hk hS' hacc => ?_
  exact hR h' tk acc' c' (fun b o hb e => hk b o hb (oth b o hb e)) hS' hacc
theorem call_list_walk {Q : Value → Shared → Prop} (I : Iterates prog w s.heap v n P) (hh : A.handled = none) (hn : n ≤ sizeLine)
    (hQ : ∀ h' tk acc' c', (∀ b o, s.heap.get? b = some o → h'.get? b = some o) →
      h'.get? s.heap.objs.size = some { cls := .type "list", dict := none, data := .seq acc' c', slots := #[] } → ItemsOf P acc' n → Q (.ref s.heap.objs.size) { s with heap := h', toks := tk }) :
    wpAny (model prog w) A (call (.type "list") [v]) Q E s := by
  refine callType_codes (Q₁ := fun obj s₁ => obj = .ref s.heap.objs.size ∧ s₁ = { s with heap := s.heap.push { cls := .type "list", data := .seq #[] } }) F.called_list (F.typeCall_list_1 _) F.entry_list_init
    (code_list_new _ ⟨rfl, rfl⟩) fun obj s₁ h₁ => ?_
  obtain ⟨rfl, rfl⟩ := h₁
  have hfree : s.heap.get? s.heap.objs.size = none := by
    cases q : s.heap.get? s.heap.objs.size with
    | none => rfl
    | some o => exact absurd (Heap.lt_size q) (Nat.lt_irrefl _)
  have hS : (s.heap.push { cls := .type "list", data := .seq #[] }).get? s.heap.objs.size = some { cls := .type "list", data := .seq #[] } := Heap.get?_push_size _ rfl
  refine ⟨⟨_, hS, rfl⟩, F.args_list_init_2 _ _, list_init_walk (A := A.in1) I (fun b o e => Heap.get?_push_of_some _ e) hh hn hfree hS fun h' tk acc' c' hk hS' hacc => ?_⟩
  exact ⟨rfl, hQ h' tk acc' c' (fun b o e => hk b o (Nat.ne_of_lt (Heap.lt_size e)) (Heap.get?_push_of_some _ e)) hS' hacc⟩
end
end Mine
namespace Mine
section
variable {prog : Program} {w : World} {A : Around} {E : Value → Shared → Prop} {s : Shared}
theorem codeG_builtin {id : String} {args : Args} {b : Builtin} {R : Result → Shared → Prop} (hn : NoLend (.builtin id args)) (hb : entryFor table id = some b)
    (h : wpG (model prog w) (A.under (.builtin id args)) (b args)
      (fun fin s' => match fin with | .done f => R (.ok f) s' | .again c' => c'.quiet = true ∧ codeG (model prog w) A c' R s') (fun e s' => R (.error e) s') s) :
    codeG (model prog w) A (.builtin id args) R s := by
  refine codeG_of_tree hn ?_
  show wpG _ _ (match entryFor table id with | some b => b args | none => unsupported ((withoutEnding? id "#data").getD id)) _ _ s
  rw [hb]; exact h
theorem codeG_call_builtin {id : String} {args : Args} {b : Builtin} {R : Result → Shared → Prop} (hq : plainId id = true) (hn : NoLend (.builtin id args)) (hb : entryFor table id = some b)
    (h : wpAny (model prog w) A.in1 (checkBuiltinCall id args) (fun _ s₁ => wpG (model prog w) A.in1 (b args)
      (fun fin s' => match fin with | .done f => R (.ok f) s' | .again c' => c'.quiet = true ∧ codeG (model prog w) A c' R s') (fun e s' => R (.error e) s') s₁)
      (fun e s' => R (.error e) s') s) : codeG (model prog w) A (.call (.builtin id) args) R s := by
  refine codeG_of_tree (noLend_other fun _ _ e => by cases e) ?_
  show wpG _ A.in1 (do checkBuiltinCall id args; again (.builtin id args)) _ _ s
  refine G_then (wpAny_mono h (fun _ s₁ h₁ => G_pure (And.intro (plainId_quiet hq args) (codeG_builtin hn hb ?_))) fun _ _ h' => h')
  rw [Around.under_plainId hq args]; exact h₁
theorem callType_codesG {T newId initId : String} {Bi : Builtin} {args : List Value} {Q Q₁ : Value → Shared → Prop} (ft : TypeCalled T newId initId) (hni : ∀ a, NoLend (.builtin initId a))
    (hct : checkTypeCall T ⟨args, []⟩ = pure ()) (entryI : entryFor table initId = some Bi)
    (hnew : codeAny (model prog w) A.in1 (.call (.builtin newId) ⟨.type T :: args, []⟩) (wants Q₁ E) s)
    (hnext : ∀ obj s₁, Q₁ obj s₁ → s₁.TypeIs obj T ∧ argsOk initId ⟨obj :: args, []⟩ ∧
      wpG (model prog w) A.in1.in1 (Bi ⟨obj :: args, []⟩)
        (fun fin s' => match fin with | .done f => wants (fun r s₂ => r = .none ∧ Q obj s₂) E (.ok f) s' | .again c' => c'.quiet = true ∧ codeG (model prog w) A.in1 c' (wants (fun r s₂ => r = .none ∧ Q obj s₂) E) s')
        (fun e s' => wants (fun r s₂ => r = .none ∧ Q obj s₂) E (.error e) s') s₁) :
    wpG (model prog w) A (call (.type T) args) Q E s := by
  obtain ⟨c, tl, hmro⟩ := ft.mro
  have hmade := ft.made
  have hsub := ft.sub
  refine G_call (codeG_of_tree (noLend_other fun _ _ e => by cases e) ?_)
  show wpG _ _ (callAny (.type T) _) _ _ _
  refine G_pure ⟨Code.quiet_builtin _ (by decide +kernel), codeG_builtin (noLend_builtin (by decide +kernel)) F.entry_type_call ?_⟩
  rw [Around.under_plain (weight_type_call_type T args []) rfl]
  have h1 := ft.notType
  have h2 := ft.canCreate
  show wpG _ _ (Builtin.«type.__call__» _) _ _ _
  unfold Builtin.«type.__call__»
  simp only [h1, h2, Bool.false_eq_true, if_false, hct, hmro, pure_bind, hmade, List.isEmpty_cons]
  refine G_then (wpAny_holding (wpAny_call (codeAny_mono hnew fun r s₁ hr => ?_)))
  cases r with
  | error e => exact hr
  | ok fl =>
    cases fl with
    | ret obj =>
      obtain ⟨hT, hok, hsi⟩ := hnext _ _ hr
      have hli := ft.init.lookup
      have hbi := ft.init.bind obj
      refine G_then (wpAny_isInstance hT hsub ?_)
      simp only [Bool.not_true, Bool.false_eq_true, if_false]
      refine G_bind (G_holding ?_)
      unfold callSpecial?
      refine G_then (wpAny_specialOf hT hli ?_)
      simp only [hbi, pure_bind]
      refine G_holding (G_bind (G_call (codeG_mono (codeG_call_builtin ft.init.plain (hni _) entryI (ft.init.check _ _ _ _ _ _ _ _ hT hok hsi)) fun r₂ s₂ hr₂ => ?_)))
      cases r₂ with
      | error e => exact hr₂
      | ok fl₂ =>
        cases fl₂ with
        | ret r =>
          obtain ⟨rfl, hq⟩ := hr₂
          exact G_pure (G_pure hq)
        | _ => exact hr₂.elim
    | _ => exact hr.elim
end
namespace BA
open PySem.Builtin
theorem mro : mroOf (.type "bytearray") = pure [.type "bytearray", .type "object"] := by rw [mroOf_type]; kernel_rfl
theorem lookup_new : typeLookup (.type "bytearray") "__new__" = pure (some (.builtin "bytearray.__new__")) := by rw [typeLookup_type, builtinLookup_eq_fast]; kernel_rfl
theorem slot_init : Slot "bytearray" "__init__" "bytearray.__init__" :=
  .of (owner := "bytearray") (n := "__init__") (by rw [typeLookup_type, builtinLookup_eq_fast]; kernel_rfl) (by decide +kernel) (by decide +kernel) (by decide +kernel)
    (by first | exact .inl (by decide +kernel) | exact .inr (by decide +kernel)) (by rw [isSubtype_type]; kernel_rfl)
theorem called : TypeCalled "bytearray" "bytearray.__new__" "bytearray.__init__" :=
  ⟨by decide +kernel, by decide +kernel, ⟨_, _, mro⟩, madeBy_type mro lookup_new (by decide +kernel), by decide +kernel, by rw [isSubtype_type]; kernel_rfl, slot_init⟩
theorem typeCall_1 (a : Value) : checkTypeCall "bytearray" ⟨[a], []⟩ = pure () := by kernel_rfl
theorem newCall_1 (a : Value) : checkBuiltinCall "bytearray.__new__" ⟨[.type "bytearray", a], []⟩ = pure () := by kernel_rfl
theorem entry_new : entryFor table "bytearray.__new__" = some Builtin.«list.__new__» := entryFor_alias (id' := "list.__new__") (by kernel_rfl) rfl (by decide +kernel) (by kernel_rfl)
theorem entry_init : entryFor table "bytearray.__init__" = some Builtin.«bytearray.__init__» := entryFor_of_tree (by kernel_rfl)
theorem plain_new : plainId "bytearray.__new__" = true := by decide +kernel
theorem args_init_2 (a b : Value) : argsOk "bytearray.__init__" ⟨[a, b], []⟩ := by kernel_rfl
theorem sub_self : isSubtype (.type "bytearray") (.type "bytearray") = pure true := by rw [isSubtype_type]; kernel_rfl
set_option maxRecDepth 1000000 in
set_option maxHeartbeats 4000000 in
theorem owner_new : ("bytearray.__new__".splitOn ".__new__").headD "" = "bytearray" := by simp +decide [String.splitOn, String.splitOnAux]
section
variable {prog : Program} {w : World} {A : Around} {E : Value → Shared → Prop} {s : Shared}
theorem code_new (a : Value) {Q₁ : Value → Shared → Prop}
    (h : Q₁ (.ref s.heap.objs.size) { s with heap := s.heap.push { cls := .type "bytearray", data := .bytearray #[] } }) :
    codeAny (model prog w) A (.call (.builtin "bytearray.__new__") ⟨[.type "bytearray", a], []⟩) (wants Q₁ E) s := by
  refine codeAny_of_tree ?_
  show wpAny _ A.in1 (do checkBuiltinCall "bytearray.__new__" ⟨[.type "bytearray", a], []⟩; again (.builtin "bytearray.__new__" ⟨[.type "bytearray", a], []⟩)) _ _ s
  refine wpAny_bind (wpAny_of_eq (newCall_1 a) (wpAny_pure ⟨plainId_quiet plain_new _, codeAny_builtin_stack entry_new rfl fun p st => ?_⟩))
  rw [Around.under_plainId plain_new _]
  have hsub := sub_self
  have hown := owner_new
  obtain ⟨hp, g, d, tk, os⟩ := s
  simp only [hown]
  wp_walk
  exact h
end
end BA
end Mine
namespace Mine
namespace BA
open PySem.Builtin
theorem slot_release : Slot "bytearray" "__release_buffer__" "bytearray.__release_buffer__" :=
  .of (owner := "bytearray") (n := "__release_buffer__") (by rw [typeLookup_type, builtinLookup_eq_fast]; kernel_rfl) (by decide +kernel) (by decide +kernel) (by decide +kernel)
    (by first | exact .inl (by decide +kernel) | exact .inr (by decide +kernel)) (by rw [isSubtype_type]; kernel_rfl)
theorem slot_buffer : Slot "bytearray" "__buffer__" "bytearray.__buffer__" :=
  .of (owner := "bytearray") (n := "__buffer__") (by rw [typeLookup_type, builtinLookup_eq_fast]; kernel_rfl) (by decide +kernel) (by decide +kernel) (by decide +kernel)
    (by first | exact .inl (by decide +kernel) | exact .inr (by decide +kernel)) (by rw [isSubtype_type]; kernel_rfl)
theorem slot_buffer_b : Slot "bytes" "__buffer__" "bytes.__buffer__" :=
  .of (owner := "bytes") (n := "__buffer__") (by rw [typeLookup_type, builtinLookup_eq_fast]; kernel_rfl) (by decide +kernel) (by decide +kernel) (by decide +kernel)
    (by first | exact .inl (by decide +kernel) | exact .inr (by decide +kernel)) (by rw [isSubtype_type]; kernel_rfl)
theorem no_release_b : typeLookup (.type "bytes") "__release_buffer__" = pure none := by rw [typeLookup_type, builtinLookup_eq_fast]; kernel_rfl
theorem noIndex (T : String) (hT : T = "list" ∨ T = "tuple" ∨ T = "bytes" ∨ T = "bytearray") : typeLookup (.type T) "__index__" = pure none := by
  rcases hT with rfl | rfl | rfl | rfl <;> (rw [typeLookup_type, builtinLookup_eq_fast]; kernel_rfl)
theorem no_buffer (T : String) (hT : T = "list" ∨ T = "tuple") : typeLookup (.type T) "__buffer__" = pure none := by
  rcases hT with rfl | rfl <;> (rw [typeLookup_type, builtinLookup_eq_fast]; kernel_rfl)
theorem bind_init (v : Value) : Bytes.bindOptional "bytearray.__init__" "bytearray" ["source", "encoding", "errors"] [v] [] = pure [some v, none, none] := by rfl
section
variable {prog : Program} {w : World} {A : Around} {E : Value → Shared → Prop} {s : Shared}
theorem release_ba {l : Addr} {Q : Bool → Shared → Prop} (hT : s.TypeIs (.ref l) "bytearray") (h : Q false s) : wpAny (model prog w) A (Bytes.ownRelease (.ref l)) Q E s := by
  unfold Bytes.ownRelease Bytes.slotIsOwn
  refine wpAny_bind (wpAny_bind (wpAny_specialOf hT slot_release.lookup ?_))
  refine bm_if_false (by decide +kernel) ?_
  rw [show "bytearray.__release_buffer__".dropRight ("__release_buffer__".length + 1) = "bytearray" by decide +kernel]
  refine wpAny_isInstance (T := "bytearray") (b := true) hT sub_self ?_
  exact wpAny_pure h
theorem release_b {b : Array UInt8} {t : Tok} {Q : Bool → Shared → Prop} (h : Q false s) : wpAny (model prog w) A (Bytes.ownRelease (.bytes b t)) Q E s := by
  unfold Bytes.ownRelease Bytes.slotIsOwn
  refine wpAny_bind (wpAny_bind (wpAny_specialOf (PySem.W.typeIs_bytes s b t) no_release_b ?_))
  exact wpAny_pure (wpAny_pure h)
theorem own_buffer_ba {l : Addr} {Q : Bool → Shared → Prop} (hT : s.TypeIs (.ref l) "bytearray") (h : Q true s) : wpAny (model prog w) A (Bytes.slotIsOwn (.ref l) "__buffer__") Q E s := by
  unfold Bytes.slotIsOwn
  refine wpAny_bind (wpAny_specialOf hT slot_buffer.lookup ?_)
  refine bm_if_false (by decide +kernel) ?_
  rw [show "bytearray.__buffer__".dropRight ("__buffer__".length + 1) = "bytearray" by decide +kernel]
  exact wpAny_isInstance (T := "bytearray") (b := true) hT sub_self h
theorem own_buffer_b {b : Array UInt8} {t : Tok} {Q : Bool → Shared → Prop} (h : Q true s) : wpAny (model prog w) A (Bytes.slotIsOwn (.bytes b t) "__buffer__") Q E s := by
  unfold Bytes.slotIsOwn
  refine wpAny_bind (wpAny_specialOf (PySem.W.typeIs_bytes s b t) slot_buffer_b.lookup ?_)
  refine bm_if_false (by decide +kernel) ?_
  rw [show "bytes.__buffer__".dropRight ("__buffer__".length + 1) = "bytes" by decide +kernel]
  exact wpAny_isInstance (T := "bytes") (b := true) (PySem.W.typeIs_bytes s b t) (by rw [isSubtype_type]; kernel_rfl) h
theorem payload_ba {l : Addr} {b : Array UInt8} {Q : Array UInt8 → Shared → Prop} (hl : s.heap.get? l = some (barr b)) (h : Q b s) : wpAny (model prog w) A (Bytes.payload (.ref l)) Q E s := by
  unfold Bytes.payload Bytes.payload?
  refine wpAny_bind (wpAny_bind (wpAny_load hl ?_))
  exact wpAny_pure (wpAny_pure h)
theorem payload_b {b : Array UInt8} {t : Tok} {Q : Array UInt8 → Shared → Prop} (h : Q b s) : wpAny (model prog w) A (Bytes.payload (.bytes b t)) Q E s := by
  unfold Bytes.payload Bytes.payload?
  exact wpAny_bind (wpAny_pure (wpAny_pure h))
theorem buffer_ba {id : String} {f : Bool} {l : Addr} {b : Array UInt8} {Q : Option (Array UInt8) → Shared → Prop} (hl : s.heap.get? l = some (barr b)) (h : Q (some b) s) : wpAny (model prog w) A (Bytes.buffer? id (.ref l) f) Q E s := by
  have hT : s.TypeIs (.ref l) "bytearray" := ⟨_, hl, rfl⟩
  unfold Bytes.buffer?
  refine wpAny_bind (wpAny_specialOf hT slot_buffer.lookup ?_)
  refine wpAny_bind (own_buffer_ba hT ?_)
  simp only [Bool.not_true, Bool.false_eq_true, if_false]
  refine wpAny_bind (wpAny_specialOf hT slot_buffer.lookup ?_)
  refine wpAny_bind (release_ba hT ?_)
  simp only [Bool.false_eq_true, if_false]
  exact wpAny_bind (payload_ba hl (wpAny_pure h))
theorem buffer_b {id : String} {f : Bool} {b : Array UInt8} {t : Tok} {Q : Option (Array UInt8) → Shared → Prop} (h : Q (some b) s) : wpAny (model prog w) A (Bytes.buffer? id (.bytes b t) f) Q E s := by
  have hT := PySem.W.typeIs_bytes s b t
  unfold Bytes.buffer?
  refine wpAny_bind (wpAny_specialOf hT slot_buffer_b.lookup ?_)
  refine wpAny_bind (own_buffer_b ?_)
  simp only [Bool.not_true, Bool.false_eq_true, if_false]
  refine wpAny_bind (wpAny_specialOf hT slot_buffer_b.lookup ?_)
  refine wpAny_bind (release_b ?_)
  simp only [Bool.false_eq_true, if_false]
  exact wpAny_bind (payload_b (wpAny_pure h))
theorem buffer_none {id : String} {f : Bool} {v : Value} {T : String} {Q : Option (Array UInt8) → Shared → Prop} (hT : s.TypeIs v T) (hT' : T = "list" ∨ T = "tuple") (h : Q none s) : wpAny (model prog w) A (Bytes.buffer? id v f) Q E s := by
  unfold Bytes.buffer?
  refine wpAny_bind (wpAny_specialOf hT (no_buffer T hT') ?_)
  show wpAny _ _ (specialOf v _ >>= _) _ _ _
  refine wpAny_bind (wpAny_specialOf hT (no_buffer T hT') ?_)
  exact wpAny_pure h
/-- a write into a bytearray -/
theorem write_ba {l : Addr} {b : Array UInt8} {f : Array UInt8 → Array UInt8} {Q : Unit → Shared → Prop} (hl : s.heap.get? l = some (barr b)) (hz : (f b).size ≤ sizeLine)
    (h : ∀ h', (∀ x o, x ≠ l → s.heap.get? x = some o → h'.get? x = some o) → h'.get? l = some (barr (f b)) → Q () { s with heap := h' }) : wpAny (model prog w) A (Bytes.write (.ref l) f) Q E s := by
  show wpAny _ _ (updateBytearray l f) _ _ _
  unfold updateBytearray
  refine wpAny_bind (wpAny_load hl ?_)
  show wpAny _ _ (update l (Obj.mapBytearray f) >>= fun _ => lookBehind l) _ _ _
  refine wpAny_bind (wpAny_update hl ?_)
  have hS₂ : (s.heap.update l (Obj.mapBytearray f)).get? l = some (barr (f b)) := Heap.get?_update_self (Obj.mapBytearray f) hl rfl
  refine wpAny_lookBehind hS₂ ?_ (h _ (fun x o hx e => (Heap.get?_update_other _ _ (Ne.symm hx)).trans e) hS₂)
  show (if (f b).size > sizeLine then some "bytearray:memory" else none) = none
  rw [if_neg (Nat.not_lt.mpr hz)]
end
end BA
end Mine
namespace Mine
namespace BA
open PySem.Builtin
theorem list_tw {p : Value → Bool} : ∀ {vs : List Value} {ns : List Int}, IntsAre vs ns → (∀ n ∈ ns, 0 ≤ n ∧ n < 256) → (∀ n t, p (.int n t) = (decide (0 ≤ n) && decide (n < 256))) → vs.takeWhile p = vs
  | _, _, .nil, _, _ => rfl
  | _, _, .cons n t h, hr, hp => by
    have h0 := hr n (.head _)
    rw [List.takeWhile_cons, hp, list_tw h (fun k hk => hr k (.tail _ hk)) hp]
    simp [h0.1, h0.2]
theorem list_fm {f : Value → Option UInt8} : ∀ {vs : List Value} {ns : List Int}, IntsAre vs ns → (∀ n t, f (.int n t) = some n.toNat.toUInt8) → (vs.filterMap f).toArray = byteArr ns
  | _, _, h, hf => by
    unfold byteArr
    congr 1
    induction h with
    | nil => rfl
    | cons n t h ih => rw [List.filterMap_cons, hf, List.map_cons, ← ih]
section
variable {prog : Program} {w : World} {A : Around} {E : Value → Shared → Prop} {s : Shared}
theorem exports_ba {l : Addr} {b : Array UInt8} {Q : Nat → Shared → Prop} (hl : s.heap.get? l = some (barr b)) (h : Q 0 s) : wpAny (model prog w) A (Bytes.exportsOf (.ref l)) Q E s := by
  show wpAny _ _ (load l >>= _) _ _ _
  refine wpAny_bind (wpAny_load hl ?_)
  exact wpAny_pure h
theorem asStr_handed {v : Value} {ns : List Int} {Q : Option Str → Shared → Prop} (H : Handed s.heap v ns) (h : Q none s) : wpAny (model prog w) A (asStr? v) Q E s := by
  cases H with
  | list hl hi =>
    obtain ⟨o, ho, _, n, hd⟩ := hl
    show wpAny _ _ (load _ >>= _) _ _ _
    refine wpAny_bind (wpAny_load ho ?_)
    rw [hd]; exact wpAny_pure h
  | tuple hl hi =>
    obtain ⟨o, ho, _, n, hd⟩ := hl
    show wpAny _ _ (load _ >>= _) _ _ _
    refine wpAny_bind (wpAny_load ho ?_)
    rw [hd]; exact wpAny_pure h
  | bytes hr => exact wpAny_pure h
  | barr hr hl =>
    show wpAny _ _ (load _ >>= _) _ _ _
    refine wpAny_bind (wpAny_load hl ?_)
    exact wpAny_pure h
theorem type_handed {v : Value} {ns : List Int} (H : Handed s.heap v ns) : ∃ T, s.TypeIs v T ∧ (T = "list" ∨ T = "tuple" ∨ T = "bytes" ∨ T = "bytearray") := by
  cases H with
  | list hl hi => exact ⟨_, hl.typeIs, .inl rfl⟩
  | tuple hl hi => exact ⟨_, hl.typeIs, .inr (.inl rfl)⟩
  | bytes hr => exact ⟨_, PySem.W.typeIs_bytes s _ _, .inr (.inr (.inl rfl))⟩
  | barr hr hl => exact ⟨_, ⟨_, hl, rfl⟩, .inr (.inr (.inr rfl))⟩
theorem checkCodec_none {id fname which : String} {Q : Unit → Shared → Prop} (h : Q () s) : wpAny (model prog w) A (Bytes.checkCodecArg id fname which none) Q E s := wpAny_pure h
theorem write_set {l : Addr} {b c : Array UInt8} {Q : Unit → Shared → Prop} (hl : s.heap.get? l = some (barr b)) (hz : c.size ≤ sizeLine)
    (h : ∀ h', (∀ x o, x ≠ l → s.heap.get? x = some o → h'.get? x = some o) → h'.get? l = some (barr c) → Q () { s with heap := h' }) : wpAny (model prog w) A (Bytes.write (.ref l) fun _ => c) Q E s :=
  write_ba (f := fun _ => c) hl hz h
/-- the part that follows the look at the stack -/
theorem init_G {v : Value} {ns : List Int} {S : Addr} {Q : Fin → Shared → Prop} (H : Handed s.heap v ns) (hr : ∀ n ∈ ns, 0 ≤ n ∧ n < 256) (hz : ns.length ≤ sizeLine) (hS : s.heap.get? S = some (barr #[])) (hv : v ≠ .ref S)
    (hQ : ∀ h', (∀ x o, x ≠ S → s.heap.get? x = some o → h'.get? x = some o) → h'.get? S = some (barr (byteArr ns)) → Q (.done (.ret .none)) { s with heap := h' }) :
    wpG (model prog w) A (Builtin.«bytearray.__init__» ⟨[.ref S, v], []⟩) Q E s := by
  have hT : s.TypeIs (.ref S) "bytearray" := ⟨_, hS, rfl⟩
  unfold Builtin.«bytearray.__init__»
  dsimp only
  refine G_then (release_ba hT ?_)
  simp only [Bool.false_eq_true, if_false]
  refine G_then (wpAny_of_eq (bind_init v) ?_)
  dsimp only
  refine G_then (checkCodec_none ?_)
  refine G_then (checkCodec_none ?_)
  refine G_bind ?_
  show wpG _ _ (Bytes.exported (.ref S) >>= _) _ _ _
  refine G_bind (G_exported ?_)
  refine G_any ?_
  show wpAny _ _ (Bytes.exportsOf (.ref S) >>= fun n => pure (decide (n > 0))) _ _ _
  refine wpAny_bind (exports_ba hS (wpAny_pure (G_any ?_)))
  simp only [Nat.lt_irrefl, gt_iff_lt, decide_false, Bool.false_eq_true, if_false]
  refine wpAny_bind (write_ba hS (Nat.zero_le _) fun h₁ hk₁ hS₁ => ?_)
  have H₁ : Handed h₁ v ns := by
    cases H with
    | list hl hi =>
      obtain ⟨o, ho, r⟩ := hl
      exact .list ⟨o, hk₁ _ _ (fun e => hv (by rw [e])) ho, r⟩ hi
    | tuple hl hi =>
      obtain ⟨o, ho, r⟩ := hl
      exact .tuple ⟨o, hk₁ _ _ (fun e => hv (by rw [e])) ho, r⟩ hi
    | bytes hr => exact .bytes hr
    | barr hr hl => exact .barr hr (hk₁ _ _ (fun e => hv (by rw [e])) hl)
  refine wpAny_bind (asStr_handed (s := { s with heap := h₁ }) H₁ ?_)
  simp only [Option.isSome_none, Bool.false_eq_true, if_false, pure_bind]
  obtain ⟨T, hTv, hTs⟩ := type_handed (s := { s with heap := h₁ }) H₁
  refine wpAny_bind (wpAny_specialOf hTv (noIndex T hTs) ?_)
  simp only [Option.isSome_none, Bool.false_eq_true, if_false]
  cases H₁ with
  | list hl hi =>
    obtain ⟨o, ho, hc, n, hd⟩ := id hl
    refine wpAny_bind (buffer_none hl.typeIs (.inl rfl) ?_)
    dsimp only
    refine wpAny_bind (wpAny_typeOf hl.typeIs ?_)
    refine bm_if_true (by decide) ?_
    refine wpAny_bind (wpAny_seqItems ho hd ?_)
    dsimp only
    rw [list_tw hi hr (fun _ _ => rfl)]
    rw [list_fm hi (fun _ _ => rfl)]
    rw [show (List.toArray _)[List.length _]? = none from by simp]
    dsimp only
    exact wpAny_bind (wpAny_rule (wpAny_bind (write_set hS₁ (by rw [byteArr_size]; exact hz) fun h₂ hk₂ hS₂ => wpAny_pure (hQ _ (fun x o hx e => hk₂ _ _ hx (hk₁ _ _ hx e)) hS₂))))
  | tuple hl hi =>
    obtain ⟨o, ho, hc, n, hd⟩ := id hl
    refine wpAny_bind (buffer_none hl.typeIs (.inr rfl) ?_)
    dsimp only
    refine wpAny_bind (wpAny_typeOf hl.typeIs ?_)
    refine bm_if_true (by decide) ?_
    refine wpAny_bind (wpAny_seqItems ho hd ?_)
    dsimp only
    rw [list_tw hi hr (fun _ _ => rfl)]
    rw [list_fm hi (fun _ _ => rfl)]
    rw [show (List.toArray _)[List.length _]? = none from by simp]
    dsimp only
    exact wpAny_bind (wpAny_rule (wpAny_bind (write_set hS₁ (by rw [byteArr_size]; exact hz) fun h₂ hk₂ hS₂ => wpAny_pure (hQ _ (fun x o hx e => hk₂ _ _ hx (hk₁ _ _ hx e)) hS₂))))
  | bytes hr =>
    refine wpAny_bind (buffer_b ?_)
    exact wpAny_bind (wpAny_rule (wpAny_bind (write_set hS₁ (by rw [byteArr_size]; exact hz) fun h₂ hk₂ hS₂ => wpAny_pure (hQ _ (fun x o hx e => hk₂ _ _ hx (hk₁ _ _ hx e)) hS₂))))
  | barr hr hl =>
    refine wpAny_bind (buffer_ba hl ?_)
    exact wpAny_bind (wpAny_rule (wpAny_bind (write_set hS₁ (by rw [byteArr_size]; exact hz) fun h₂ hk₂ hS₂ => wpAny_pure (hQ _ (fun x o hx e => hk₂ _ _ hx (hk₁ _ _ hx e)) hS₂))))
/-- bytearray(v) -/
theorem call_G {v : Value} {ns : List Int} {Q : Value → Shared → Prop} (H : Handed s.heap v ns) (hr : ∀ n ∈ ns, 0 ≤ n ∧ n < 256) (hz : ns.length ≤ sizeLine)
    (hQ : ∀ l h', s.heap.get? l = none → (∀ x o, s.heap.get? x = some o → h'.get? x = some o) → h'.get? l = some (barr (byteArr ns)) → Q (.ref l) { s with heap := h' }) :
    wpG (model prog w) A (call (.type "bytearray") [v]) Q E s := by
  have hfree : s.heap.get? s.heap.objs.size = none := by
    cases q : s.heap.get? s.heap.objs.size with
    | none => rfl
    | some o => exact absurd (Heap.lt_size q) (Nat.lt_irrefl _)
  refine callType_codesG (Q₁ := fun obj s₁ => obj = .ref s.heap.objs.size ∧ s₁ = { s with heap := s.heap.push { cls := .type "bytearray", data := .bytearray #[] } }) called (fun _ => noLend_builtin (by decide +kernel)) (typeCall_1 _) entry_init
    (code_new _ ⟨rfl, rfl⟩) fun obj s₁ h₁ => ?_
  obtain ⟨rfl, rfl⟩ := h₁
  have hS : (s.heap.push { cls := .type "bytearray", data := .bytearray #[] }).get? s.heap.objs.size = some (barr #[]) := Heap.get?_push_size _ rfl
  refine ⟨⟨_, hS, rfl⟩, args_init_2 _ _, init_G (H.keeps fun b o e => Heap.get?_push_of_some _ e) hr hz hS (fun e => ?_) fun h' hk' hS' => ⟨rfl, ?_⟩⟩
  · subst e
    cases H with
    | list hl _ => obtain ⟨o, ho, _⟩ := hl; rw [hfree] at ho; cases ho
    | tuple hl _ => obtain ⟨o, ho, _⟩ := hl; rw [hfree] at ho; cases ho
    | barr _ hl => rw [hfree] at hl; cases hl
  · exact hQ _ _ hfree (fun x o e => hk' x o (fun q => by rw [q, hfree] at e; cases e) (Heap.get?_push_of_some _ e)) hS'
end
end BA
end Mine
namespace Mine
section
variable {M : Model} {A : Around} {E : Value → Shared → Prop} {s : Shared} {env : Env}
theorem G_keep {α : Type} {vs : List Value} {m : Sem α} {Q : α → Shared → Prop} (h : wpG M A m Q E s) : wpG M A (m.keep vs) Q E s :=
  fun Γ p hΓ g => by rw [Sem.wp_keep]; exact h Γ p hΓ g
theorem G_callTail {t : Sem Value} {Q : Value → Shared → Prop} (ht : wpG M A t Q E s) : wpG M A (t >>= fun r => holding [r] point >>= fun _ => pure r) Q E s :=
  G_bind (G_mono ht (fun r s₂ hr => G_any (wpAny_bind (wpAny_holding (wpAny_point (wpAny_pure hr))))) fun _ _ x => x)
theorem G_callWith_fn {pos : Pos} {a : Addr} {o : Obj} {fd : FuncData} {first : List Value} {args : List (Bool × Sem Value)} {keywords : List (Option Str × Sem Value)} {Q : Value → Shared → Prop}
    (h : wpAny M A (evalArgs (.ref a) true args keywords) (fun x s₁ => (s₁.heap.get? a = some o ∧ o.data = .func fd) ∧ wpG M A (call (.ref a) (first ++ x.pos) x.kw) Q E s₁) E s) :
    wpG M A (callWith pos (.ref a) first args keywords) Q E s := by
  unfold callWith
  refine G_then (wpAny_holding (wpAny_mono h (fun x s₁ h₁ => G_standAt ?_) fun _ _ x => x))
  cases hs : (args.any (·.1) || keywords.any (·.1.isNone)) <;>
    refine G_then (m := keeperOf (.ref a)) ?_ <;> unfold keeperOf <;>
    refine wpAny_bind (wpAny_load h₁.1.1 ?_) <;> rw [h₁.1.2] <;> refine wpAny_pure ?_
  · dsimp only
    split <;> first
      | exact G_callTail h₁.2
      | exact G_callTail (by unfold callMarked; exact G_keep h₁.2)
  · first
      | exact G_callTail (by unfold callMarked; exact G_keep h₁.2)
      | exact G_callTail h₁.2
theorem G_callWith_type {pos : Pos} {T : String} {e : Expr} {rest : List Expr} {Q : Value → Shared → Prop}
    (h : wpAny M A (spliced (backTo pos (starEach (e :: rest) env))) (fun vs s₁ => wpG M A (call (.type T) vs) Q E s₁) E s)
    (he : starEach (e :: rest) env = (false, eval e env) :: starEach rest env := by rfl)
    (hplain : (backTo pos (starEach rest env)).any (·.1) = false := by rfl) :
    wpG M A (callWith pos (.type T) [] (backTo pos (starEach (e :: rest) env)) []) Q E s := by
  rw [he] at h ⊢
  unfold callWith
  refine G_then (wpAny_holding (Calls.evalArgs_plain (wpAny_mono h (fun vs s₁ h₁ => G_standAt ?_) fun _ _ x => x)))
  have hst : ((backTo pos ((false, eval e env) :: starEach rest env)).any (·.1)) = false := by
    show (false || (backTo pos (starEach rest env)).any (·.1)) = false
    rw [hplain]; rfl
  simp only [hst, List.any_nil, Bool.or_false]
  refine G_then (wpAny_pure ?_)
  exact G_callTail (by simpa using h₁)
theorem G_callWith_builtin {pos : Pos} {id : String} {first : List Value} {e : Expr} {rest : List Expr} {Q : Value → Shared → Prop}
    (h : wpAny M A (spliced (backTo pos (starEach (e :: rest) env))) (fun vs s₁ => wpG M A (call (.builtin id) (first ++ vs)) Q E s₁) E s)
    (he : starEach (e :: rest) env = (false, eval e env) :: starEach rest env := by rfl)
    (hplain : (backTo pos (starEach rest env)).any (·.1) = false := by rfl) :
    wpG M A (callWith pos (.builtin id) first (backTo pos (starEach (e :: rest) env)) []) Q E s := by
  rw [he] at h ⊢
  unfold callWith
  refine G_then (wpAny_holding (Calls.evalArgs_plain (wpAny_mono h (fun vs s₁ h₁ => G_standAt ?_) fun _ _ x => x)))
  have hst : ((backTo pos ((false, eval e env) :: starEach rest env)).any (·.1)) = false := by
    show (false || (backTo pos (starEach rest env)).any (·.1)) = false
    rw [hplain]; rfl
  simp only [hst, List.any_nil, Bool.or_false]
  refine G_then (wpAny_pure ?_)
  exact G_callTail h₁
/-- one argument that itself asks of the stack, a type over it -/
theorem G_callWith_type1 {pos : Pos} {T : String} {e : Expr} {Q : Value → Shared → Prop}
    (h : wpG M A (eval e env) (fun v s₁ => wpAny M A (call (.type T) [v]) Q E s₁) E s)
    (he : starEach [e] env = [(false, eval e env)] := by rfl) :
    wpG M A (callWith pos (.type T) [] (backTo pos (starEach [e] env)) []) Q E s := by
  rw [he]
  unfold callWith
  refine G_bind (G_holding ?_)
  unfold evalArgs
  show wpG M A (spliced (backTo pos [(false, eval e env)]) >>= _) _ E s
  show wpG M A (spliced [(false, eval e env)] >>= _) _ E s
  refine G_bind ?_
  rw [spliced]
  refine G_bind (G_mono h (fun v s₁ h₁ => ?_) fun _ _ x => x)
  simp only [Bool.false_eq_true, if_false]
  refine G_any (wpAny_bind (wpAny_pure (wpAny_bind (wpAny_holding (wpAny_pure (wpAny_pure ?_))))))
  refine G_any (wpAny_holding (wpAny_bind (wpAny_pure (wpAny_bind (wpAny_pure (wpAny_pure ?_))))))
  refine G_standAt ?_
  refine G_then (wpAny_pure ?_)
  exact G_callTail (G_any (by simpa using h₁))
theorem G_Call_Name {id : Str} {p pos : Pos} {args : List Expr} {keywords : List Keyword} {Q : Value → Shared → Prop}
    (h : wpAny M A (eval (.Name id p) env) (fun f s₁ => wpG M A (callWith pos f [] (backTo pos (starEach args env)) (backToKw pos (keywordEach keywords env))) Q E s₁) E s) :
    wpG M A (eval (.Call (.Name id p) args keywords pos) env) Q E s := by
  rw [arm_eval_Call_Name']
  exact G_then h
theorem G_MethodCall {o : Expr} {name : Str} {apos pos pos' : Pos} {args : List Expr} {keywords : List Keyword} {pl : Sem Bool} {Q : Value → Shared → Prop}
    (h : wpAny M A (eval o env) (fun ov s₁ => wpAny M A (getMethod ov name pl) (fun fx s₂ => wpG M A (callWith pos' fx.1 fx.2 (backTo pos (starEach args env)) (backToKw pos (keywordEach keywords env))) Q E s₂) E s₁) E s)
    (he : eval (.Call (.Attribute o name apos) args keywords pos) env = (do
      let ov ← eval o env
      standAt apos.atName
      let (f, first) ← holding [ov] (getMethod ov name pl)
      callWith pos' f first (backTo pos (starEach args env)) (backToKw pos (keywordEach keywords env))) := by rfl) :
    wpG M A (eval (.Call (.Attribute o name apos) args keywords pos) env) Q E s := by
  rw [he]
  refine G_then (wpAny_mono h (fun ov s₁ h₁ => G_standAt (G_then (wpAny_holding (wpAny_mono h₁ (fun fx s₂ h₂ => ?_) fun _ _ x => x)))) fun _ _ x => x)
  exact h₂
theorem G_Compare1 {l op r pos} {Q : Value → Shared → Prop}
    (h : wpG M A (eval l env) (fun a s₁ => wpAny M A (eval r env) (fun b s₂ => wpAny M A (compareOp op a b) Q E s₂) E s₁) E s)
    (hm : behindInMarks op r = false := by with_unfolding_all rfl) :
    wpG M A (eval (.Compare l [op] [r] pos) env) Q E s := fun Γ p hΓ g => by
  simp only [eval_Compare1, markedBehindIn_of_false hm, Sem.wp_bind', Sem.wp_holding, Sem.wp_cmd_standAt, Sem.wp_operate]
  exact Sem.wp_mono M Γ _ (fun a p₁ s₁ h₁ => Sem.wp_mono M Γ _ (fun b _ s₂ h₂ => h₂ Γ _ hΓ) (fun _ _ _ h' => h') _ _ (h₁ Γ p₁ hΓ))
    (fun _ _ _ h' => h') _ _ (h Γ p hΓ g)
theorem G_boolAnd {x y : Expr} {rest : List Expr} {pos : Pos} {Q : Value → Shared → Prop}
    (h : wpG M A (eval x env) (fun v s₁ => wpAny M A (truthy v) (fun t s₂ => if t then wpG M A (boolOp pos .And (evalEach (y :: rest) env)) Q E s₂ else Q v s₂) E s₁) E s) :
    wpG M A (boolOp pos .And (evalEach (x :: y :: rest) env)) Q E s := by
  show wpG M A (do
    let v ← eval x env
    standAt pos
    let t ← holding [v] (truthy v)
    match BoolOp.And, t with
    | .And, false | .Or, true => pure v
    | _, _ => boolOp pos .And (evalEach (y :: rest) env)) Q E s
  refine G_bind (G_mono h (fun v s₁ h₁ => G_standAt (G_then (wpAny_holding (wpAny_mono h₁ (fun t s₂ h₂ => ?_) fun _ _ x => x)))) fun _ _ x => x)
  cases t
  · exact G_pure h₂
  · exact h₂
theorem G_boolOne {x : Expr} {op : BoolOp} {pos : Pos} {Q : Value → Shared → Prop} (h : wpG M A (eval x env) Q E s) : wpG M A (boolOp pos op (evalEach [x] env)) Q E s := h
theorem G_BoolOp {op : BoolOp} {values : List Expr} {pos : Pos} {Q : Value → Shared → Prop} (h : wpG M A (boolOp pos op (evalEach values env)) Q E s) :
    wpG M A (eval (.BoolOp op values pos) env) Q E s := h
theorem G_Try {body : List Stmt} {h₀ : ExceptHandler} {hs : List ExceptHandler} {orelse : List Stmt} {pos : Pos} {Q : Flow → Shared → Prop}
    (h : wpG M A (execs body env) (fun f s₁ => match f with | .next => wpG M A (execs orelse env) Q E s₁ | f => Q f s₁)
      (fun e s₁ => wpAny M A (noteFrame e env) (fun _ s₂ => wpAny M A (setFlight e none) (fun _ s₃ => wpAny M A (handleBy e env (h₀ :: hs)) Q E s₃) E s₂) E s₁) s) :
    wpG M A (exec (.Try body (h₀ :: hs) orelse [] pos) env) Q E s := by
  rw [arm_exec_Try]
  refine G_standAt ?_
  unfold tryStmt
  simp only [List.isEmpty_nil, if_true, List.isEmpty_cons, Bool.false_and, Bool.false_eq_true, if_false]
  refine G_bind (G_attempt (G_mono h (fun f s₁ h₁ => ?_) fun e s₁ h₁ => ?_))
  · cases f <;> first | exact h₁ | exact G_pure h₁
  · exact G_any (wpAny_bind (wpAny_mono h₁ (fun _ _ h₂ => wpAny_bind h₂) fun _ _ x => x))
theorem G_Assign_Sub {o i pos' value pos} {Q : Flow → Shared → Prop}
    (h : wpG M A (eval value env) (fun v s₁ => wpAny M A (assign (.Subscript o i pos') env v) (fun _ => Q .next) E s₁) E s)
    (hs : swapsWith value (some (.Subscript o i pos')) pos.line env = pure false := by rfl) :
    wpG M A (exec (.Assign [.Subscript o i pos'] value pos) env) Q E s := by
  rw [exec_Assign_Subscript o i pos' value pos hs]
  exact G_standAt (G_last (G_mono h (fun v s₁ h₁ => wpAny_bind (wpAny_mono h₁ (fun _ _ q => wpAny_pure q) fun _ _ x => x)) fun _ _ x => x))
end
end Mine
namespace Mine
section
variable {prog : Program} {w : World} {K : Type} [DecidableEq K] {knd : KeyKind prog w K} {A : Around} {E : Value → Shared → Prop} {s : Shared} {h₀ : Heap} {L d : Addr} {m : Str → Option Value} {news : List (Addr × Obj)} {o : Obj} {kvs : List (K × Value)} {k : K} {key v dflt : Value}
/-- a dict that stood at the call -/
theorem od_dict (F : Fr h₀ L s.heap m) (hd : h₀.DictOf knd d kvs) : s.heap.DictOf knd d kvs := hd.keep F.keep
theorem od_item {value slice : PySem.Expr} {Q : Value → Shared → Prop} (F : Fr h₀ L s.heap m) (hd : h₀.DictOf knd d kvs) (hkey : knd.is k key = true) (hl : valueAt kvs k = some v) (h : Q v { s with toks := s.toks + 1 })
    (hs : subscripted slice false (.ref d) key = operate [.ref d, key] (getItem (.ref d) key) := by with_unfolding_all rfl) (hg : ∀ r, letTemporaryGo value (.ref d) r = pure () := by intro _; with_unfolding_all rfl) :
    wpAny (model prog w) A (subscriptTail value slice (.ref d) key) Q E s :=
  have hD := od_dict F hd
  subscriptTail_builtin hD.typeIs slot_dict_getitem.lookup (wpAny_getItem_of hkey hD.mapOf hl h) hs hg
theorem od_method {name : Str} {id : String} {pl : Sem Bool} {Q : Value × List Value → Shared → Prop} (slot : Slot "dict" name id) (ty : typeOf (.builtin id) = pure (.type "method_descriptor")) (F : Fr h₀ L s.heap m) (hd : h₀.DictOf knd d kvs) (h : Q (.builtin id, [.ref d]) s) :
    wpAny (model prog w) A (getMethod (.ref d) name pl) Q E s :=
  have hD := od_dict F hd
  getMethod_builtin hD.typeIs PySem.F.plainAttrs_dict slot ty hD.mapOf.noDict h
theorem od_in {Q : Value → Shared → Prop} (F : Fr h₀ L s.heap m) (hd : h₀.DictOf knd d kvs) (lo : (d == sysModules) = false) (hkey : knd.is k key = true) (b : Bool) (hb : (valueAt kvs k).isSome = b) (h : Q (.bool b) { s with toks := s.toks + 1 }) :
    wpAny (model prog w) A (compareOp .In key (.ref d)) Q E s := wpAny_in_of hkey lo (od_dict F hd).mapOf (by rw [hb]; exact h)
theorem od_notin {Q : Value → Shared → Prop} (F : Fr h₀ L s.heap m) (hd : h₀.DictOf knd d kvs) (lo : (d == sysModules) = false) (hkey : knd.is k key = true) (b : Bool) (hb : (valueAt kvs k).isSome = b) (h : Q (.bool !b) { s with toks := s.toks + 1 }) :
    wpAny (model prog w) A (compareOp .NotIn key (.ref d)) Q E s := wpAny_notIn_of hkey lo (od_dict F hd).mapOf (by rw [hb]; exact h)
theorem dict_update_of {ov : Addr} {g : Obj → List (Addr × Obj)} {more : List (K × Value)} {Q : Value → Shared → Prop} (F : Fr h₀ L s.heap m) (N : News h₀ L s.heap news) (U : UpdF d o news g) (hd : o.IsDictOf knd kvs) (ho : h₀.DictOf knd ov more) (lo : (ov == sysModules) = false) (hsz : kvs.length + more.length ≤ sizeLine)
    (h : ∀ h' o', Fr h₀ L h' m → News h₀ L h' (g o') → o'.IsDictOf knd (merged kvs more) → Q .none { s with heap := h' }) :
    wpAny (model prog w) A (call (.builtin "dict.update") [.ref d, .ref ov]) Q E s := by
  obtain ⟨pre, post, rfl, hg, a, b⟩ := U.split
  have hm := N (d, o) (List.mem_append_right _ (.head _))
  have hD : s.heap.DictOf knd d kvs := Heap.dictOf_iff.mpr ⟨o, hm.1, hd⟩
  have hne : d ≠ ov := fun e => by
    obtain ⟨oo, hoo, _⟩ := Heap.dictOf_iff.mp ho
    have := hm.2.2
    rw [show (d, o).1 = ov from e, hoo] at this; cases this
  refine call_meetsIn PySem.F.slot_dict_update hD.typeIs PySem.F.entry_dict_update (PySem.F.args_dict_update_2 _ _) (meets_dict_update knd d ov hne lo) ⟨kvs, more, hD, od_dict F ho, hsz, fun h' hmm _ hs => ?_⟩
  obtain ⟨o', ho', hd'⟩ := Heap.dictOf_iff.mp hmm
  exact h h' o' (F.change hs hm.2.1 hm.2.2) (hg o' ▸ N.setIn a b hs ho') hd'
/-- a dict's copy goes onto the ledger -/
theorem dict_copy_of {Q : Value → Shared → Prop} (F : Fr h₀ L s.heap m) (N : News h₀ L s.heap news) (hd : s.heap.DictOf knd d kvs) (lo : (d == sysModules) = false) (hsz : kvs.length ≤ sizeLine)
    (h : ∀ d' h' o, Fr h₀ L h' m → News h₀ L h' ((d', o) :: news) → (∀ p ∈ news, p.1 < d') → o.IsDictOf knd kvs → s.heap.get? d' = none → Q (.ref d') { s with heap := h' }) :
    wpAny (model prog w) A (call (.builtin "dict.copy") [.ref d]) Q E s := by
  refine call_meetsIn PySem.F.slot_dict_copy hd.typeIs PySem.F.entry_dict_copy (PySem.F.args_dict_copy_1 _) (meets_dict_copy knd d lo) ⟨kvs, hd, hsz, fun h' hd' _ hk => ?_⟩
  obtain ⟨o, ho, hdo⟩ := Heap.dictOf_iff.mp hd'
  have hfree : s.heap.get? s.heap.objs.size = none := by
    cases q : s.heap.get? s.heap.objs.size with
    | none => rfl
    | some o => exact absurd (Heap.lt_size q) (Nat.lt_irrefl _)
  refine h _ h' o ⟨F.ns.keeps hk, fun b o e => hk b o (F.keep b o e), F.above⟩ (fun p hp => ?_) (fun p hp => Heap.lt_size (N p hp).1) hdo hfree
  rcases List.mem_cons.mp hp with rfl | hp
  · refine ⟨ho, fun e => ?_, ?_⟩
    · obtain ⟨oL, _, _, hL, _⟩ := F.ns
      rw [← e, hfree] at hL; cases hL
    · cases q : h₀.get? s.heap.objs.size with
      | none => rfl
      | some o => rw [F.keep _ _ q] at hfree; cases hfree
  · exact ⟨hk _ _ (N p hp).1, (N p hp).2⟩
end
theorem topNotIn_K {prog : Program} {w : World} {A : Around} {E : Value → Shared → Prop} {s : Shared} {K : Frag} {h₀ : Heap} {L a : Addr} {m : Str → Option Value} {es : Array DictEntry} {n : Nat} {x : Str} {t : Tok} {r : Option Value} {Q : Value → Shared → Prop} (F : Fr h₀ L s.heap m) (X₀ : K.In h₀) (hl : K.lookup a = some ⟨.type "dict", none, .dict es n, #[]⟩) (hk : KeysLit w.params es.toList) (e : nsIn K a x = some r) (lo : (a == sysModules) = false)
    (h : Q (.bool (!r.isSome)) { s with toks := s.toks + 1 }) : wpAny (model prog w) A (compareOp .NotIn (.str x t) (.ref a)) Q E s :=
  wpAny_notIn_of (strKind_is prog w x t) lo (mapOf_K (prog := prog) (X₀.keeps F.keep) hl hk) (by rw [find_K hl e]; exact h)
theorem items_old {prog : Program} {w : World} {A : Around} {E : Value → Shared → Prop} {s : Shared} {env : Env} {h₀ : Heap} {body : List Stmt} {Q : Flow → Shared → Prop} {elts : List Expr} {kk : Nat} {pos : Pos} {d vw : Addr} {kvs : List (Str × Value)} {xs : List Itm} {m₀ : Str → Option Value} {news : List (Addr × Obj)}
    (hh : A.handled = none) (F : Fr h₀ env.locals s.heap m₀) (N : News h₀ env.locals s.heap news) (hvw : ∃ ov, s.heap.get? vw = some ov ∧ ov.cls = .type "dict_items" ∧ ov.data = .fields #[.ref d]) (hd : h₀.DictOf (PySem.strKind prog w) d kvs)
    (hx : kvs.map (fun p => Itm.pair (Value.str p.1) p.2) = xs)
    (rest₀ : ∀ I : Addr, (∀ p ∈ news, p.1 < I) → ItemsRest prog w A E h₀ env (.Tuple elts kk pos) body Q s [(I, "dict_itemiterator")] [] xs m₀ news) :
    wpAny (model prog w) A (pyIter (.ref vw)) (fun it s₂ => TurnsAt prog w A h₀ env (.Tuple elts kk pos) body Q E it s₂) E s := by
  subst hx
  obtain ⟨ep, hat⟩ := (hd.keep F.keep).dictAt
  obtain ⟨od, hod, _⟩ := Heap.dictOf_iff.mp hd
  have hne : d ≠ s.heap.objs.size := Nat.ne_of_lt hat.lt_size
  refine wpAny_pyIter_items hvw hat ?_
  refine ktg_core (tk0 := s.toks) (keep := []) (kti_itemsTurns (knd := PySem.strKind prog w) hh s.heap.objs.size d hne kvs ep) (by rw [List.length_map]) ?_ ?_ ?_ ?_ ?_ ?_ ?_ ?_ (F.push _) (fun p hp => ⟨Heap.get?_push_of_some _ (N p hp).1, (N p hp).2⟩) trivial (rest₀ _ fun p hp => Heap.lt_size (N p hp).1)
  · rintro i v h ⟨T', key, k, x, rfl, hx, hk, hT⟩
    have hkt : ∃ t, key = Value.str k t := by
      cases key <;> simp [PySem.strKind, Value.isStrOf] at hk
      subst hk
      exact ⟨_, rfl⟩
    obtain ⟨t, rfl⟩ := hkt
    exact ⟨.pair (Value.str k) x, by rw [List.getElem?_map, hx]; rfl, T', t, rfl, hT⟩
  · rintro i h ⟨⟨ok, ov, he⟩, _⟩
    have e1 : ∃ o : Obj, h.get? s.heap.objs.size = some o ∧ o.cls = .type "dict_itemiterator" := ⟨_, he, rfl⟩
    obtain ⟨oi, g, c⟩ := e1
    exact ⟨[(s.heap.objs.size, oi)], ⟨⟨rfl, c⟩, trivial⟩, fun p hp => by rw [List.mem_singleton.mp hp]; exact g⟩
  · intro b hb
    have hb' : b = s.heap.objs.size := by simpa using hb
    rw [hb']
    exact ⟨List.mem_cons_self .., next_is_new F⟩
  · intro b hb
    simpa using hb
  · intro b hb
    have hb' : b = s.heap.objs.size ∨ b = d := by simpa using hb
    rcases hb' with e | e
    · exact .inl (by simp [e])
    · exact .inr (.inr ⟨od, by rw [e]; exact hod⟩)
  · intro hI
    have hb' : env.locals = s.heap.objs.size ∨ env.locals = d := by simpa using hI
    rcases hb' with e | e
    · exact absurd F.ns.lt (e ▸ Nat.lt_irrefl _)
    · exact absurd (Heap.lt_size hod) (Nat.not_lt.mpr (e ▸ F.above))
  · intro p hp hI
    exact absurd (Heap.lt_size (N p hp).1) ((List.mem_singleton.mp hI) ▸ Nat.lt_irrefl _)
  · exact ⟨⟨.none, .none, Heap.get?_push_size _ rfl⟩, hat.push _⟩
/-- d.items() -/
theorem items_call {prog : Program} {w : World} {A : Around} {E : Value → Shared → Prop} {s : Shared} {h₀ : Heap} {L d : Addr} {m : Str → Option Value} {news : List (Addr × Obj)} {kvs : List (Str × Value)} {Q : Value → Shared → Prop} (F : Fr h₀ L s.heap m) (N : News h₀ L s.heap news) (hd : h₀.DictOf (PySem.strKind prog w) d kvs) (lo : (d == sysModules) = false)
    (h : ∀ v h', Fr h₀ L h' m → News h₀ L h' ((v, { cls := .type "dict_items", data := .fields #[.ref d] }) :: news) → (∀ p ∈ news, p.1 < v) → Q (.ref v) { s with heap := h' }) : wpAny (model prog w) A (call (.builtin "dict.items") [.ref d]) Q E s :=
  have hD := od_dict F hd
  call_meetsIn PySem.F.slot_dict_items hD.typeIs PySem.F.entry_dict_items (PySem.F.args_dict_items_1 _) (meets_dict_items (PySem.strKind prog w) d lo) ⟨⟨kvs, hD⟩, h _ _ (F.push _) (N.push F _) fun p hp => Heap.lt_size (N p hp).1⟩
section
variable {prog : Program} {w : World} {A : Around} {E : Value → Shared → Prop} {s : Shared} {K : Frag} {h₀ : Heap} {L a : Addr} {m : Str → Option Value} {es : Array DictEntry} {n : Nat} {x : Str} {t : Tok} {r : Option Value}
theorem topMethod_K {name : Str} {id : String} {pl : Sem Bool} {Q : Value × List Value → Shared → Prop} (slot : Slot "dict" name id) (ty : typeOf (.builtin id) = pure (.type "method_descriptor")) (F : Fr h₀ L s.heap m) (X₀ : K.In h₀) (hl : K.lookup a = some ⟨.type "dict", none, .dict es n, #[]⟩)
    (hk : KeysLit w.params es.toList) (h : Q (.builtin id, [.ref a]) s) : wpAny (model prog w) A (getMethod (.ref a) name pl) Q E s :=
  have hm := mapOf_K (prog := prog) (X₀.keeps F.keep) hl hk
  getMethod_builtin hm.typeIs PySem.F.plainAttrs_dict slot ty hm.noDict h
theorem topGet_K {v : Value} {Q : Value → Shared → Prop} (F : Fr h₀ L s.heap m) (X₀ : K.In h₀) (hl : K.lookup a = some ⟨.type "dict", none, .dict es n, #[]⟩) (hk : KeysLit w.params es.toList) (e : nsIn K a x = some (some v)) (lo : (a == sysModules) = false)
    (h : Q v { s with toks := s.toks + 1 }) : wpAny (model prog w) A (call (.builtin "dict.get") [.ref a, .str x t]) Q E s :=
  have hm := mapOf_K (prog := prog) (X₀.keeps F.keep) hl hk
  call_meetsIn PySem.F.slot_dict_get hm.typeIs PySem.F.entry_dict_get (PySem.F.args_dict_get_2 _ _) (meets_dict_get (PySem.strKind prog w) (k := x) a (strKind_is _ _ _ _) lo) ⟨_, hm, by rw [find_K hl e]; exact h⟩
theorem topNotInTup {l : List Value} {xs : List Str} {dd : Option Addr} {sl : Array (Option Value)} {b : Bool} {Q : Value → Shared → Prop} (F : Fr h₀ L s.heap m) (X₀ : K.In h₀) (hl : K.lookup a = some ⟨.type "tuple", dd, .seq l.toArray n, sl⟩) (hs : StrsAre l xs) (hb : xs.any (· == x) = b)
    (h : Q (.bool (!b)) s) : wpAny (model prog w) A (compareOp .NotIn (.str x t) (.ref a)) Q E s :=
  notin_tuple_strs (tupK (X₀.keeps F.keep) hl) (by simpa using hs) (by rw [hb]; exact h)
end
end Mine
namespace Mine
namespace BA
open PySem.Builtin
theorem slot_append : Slot "bytearray" "append" "bytearray.append" :=
  .of (owner := "bytearray") (n := "append") (by rw [typeLookup_type, builtinLookup_eq_fast]; kernel_rfl) (by decide +kernel) (by decide +kernel) (by decide +kernel)
    (by first | exact .inl (by decide +kernel) | exact .inr (by decide +kernel)) (by rw [isSubtype_type]; kernel_rfl)
theorem type_append : typeOf (.builtin "bytearray.append") = pure (.type "method_descriptor") := by show builtinType _ = _; rw [builtinType_eq_fast]; kernel_rfl
theorem entry_append : entryFor table "bytearray.append" = some Builtin.«bytearray.append» := entryFor_of_tree (by kernel_rfl)
theorem args_append (a b : Value) : argsOk "bytearray.append" ⟨[a, b], []⟩ := by unfold argsOk; kernel_rfl
theorem plainAttrs : PlainAttrs "bytearray" :=
  ⟨⟨"bytearray.__getattribute__", by rw [typeLookup_type, builtinLookup_eq_fast]; kernel_rfl, by decide +kernel⟩, by rw [typeLookup_type, builtinLookup_eq_fast]; kernel_rfl⟩
section
variable {prog : Program} {w : World} {A : Around} {E : Value → Shared → Prop} {s : Shared}
theorem method_append {l : Addr} {b : Array UInt8} {pl : Sem Bool} {Q : Value × List Value → Shared → Prop} (hl : s.heap.get? l = some (barr b)) (h : Q (.builtin "bytearray.append", [.ref l]) s) :
    wpAny (model prog w) A (getMethod (.ref l) "append" pl) Q E s :=
  getMethod_builtin ⟨_, hl, rfl⟩ plainAttrs slot_append type_append (fun a e => by cases e; exact ⟨_, hl, rfl⟩) h
theorem append_G {l : Addr} {b : Array UInt8} {n : Int} {tk : Tok} {Q : Value → Shared → Prop} (hl : s.heap.get? l = some (barr b)) (h0 : 0 ≤ n) (h1 : n < 256) (hz : b.size + 1 ≤ sizeLine)
    (hQ : ∀ h', (∀ x o, x ≠ l → s.heap.get? x = some o → h'.get? x = some o) → Q .none { s with heap := h' }) : wpG (model prog w) A (call (.builtin "bytearray.append") [.ref l, .int n tk]) Q E s := by
  have hT : s.TypeIs (.ref l) "bytearray" := ⟨_, hl, rfl⟩
  refine G_call (codeG_call_builtin slot_append.plain (noLend_builtin (by decide +kernel)) entry_append (slot_append.check _ _ _ _ _ _ _ _ hT (args_append _ _) ?_))
  show wpG _ _ (Builtin.«bytearray.append» _) _ _ _
  unfold Builtin.«bytearray.append»
  refine G_then (wpAny_of_eq (a := (.ref l, .int n tk)) rfl ?_)
  dsimp only
  refine G_then (m := Bytes.byteValue (.int n tk)) ?_
  unfold Bytes.byteValue
  refine wpAny_bind (wpAny_of_eq (rfl : asIndex (.int n tk) = pure n) ?_)
  refine bm_if_false (by simp only [Bool.or_eq_false_iff, decide_eq_false_iff_not]; omega) ?_
  refine wpAny_pure ?_
  refine G_bind ?_
  unfold Bytes.checkResize
  refine G_bind ?_
  show wpG _ _ (Bytes.exported (.ref l) >>= _) _ _ _
  refine G_bind (G_exported ?_)
  refine G_any ?_
  show wpAny _ _ (Bytes.exportsOf (.ref l) >>= fun n => pure (decide (n > 0))) _ _ _
  refine wpAny_bind (exports_ba hl (wpAny_pure (G_any ?_)))
  refine bm_if_false (by simp) ?_
  refine wpAny_pure (G_any ?_)
  exact wpAny_bind (write_ba (f := (·.push n.toNat.toUInt8)) hl (by simpa using hz) fun h' hk' _ => wpAny_pure (hQ _ hk'))
end
end BA
end Mine
namespace Mine
theorem caller_good : Good (⟨.builtin "claim.caller" {}, none, none, [], none⟩ : Ctx) :=
  ⟨noLend_builtin (by decide +kernel), fun _ h => nomatch h⟩
theorem wp_of_G {M : Model} {t : Sem Fin} {R : Result → Shared → Prop} {s : Shared}
    (h : wpG M callerA t (fun fin s' => ∃ f, fin = .done f ∧ R (.ok f) s') (fun e s' => R (.error e) s') s) (p : Pos) :
    wp M ⟨.builtin "claim.caller" {}, none, none, [], none⟩ t (Sem.finPost M ⟨.builtin "claim.caller" {}, none, none, [], none⟩ R) (fun e _ s' => R (.error e) s') p s := by
  refine Sem.wp_mono M _ t (fun fin p' s' h' => ?_) (fun _ _ _ h' => h') p s (h _ p caller_in caller_good)
  obtain ⟨f, rfl, hf⟩ := h'
  exact hf
theorem thread_endsG {prog : Program} {w : World} {t : Sem Fin} {s : Shared} {R : Result → Shared → Prop} (hreg : s.asleep)
    (h : wpG (model prog w) callerA t (fun fin s' => ∃ f, fin = .done f ∧ (R (.ok f) s' ∧ leftWithCleanup s'.gens = false)) (fun e s' => R (.error e) s' ∧ leftWithCleanup s'.gens = false) s) :
    ∃ n r s' s'', runN (denote table) prog w n s ⟨t, .builtin "claim.caller" {}, default, []⟩ = .halted (outcomeOf r) s' ∧
      schedN (denote table) prog w n (.single s ⟨t, .builtin "claim.caller" {}, default, []⟩) = .halted (outcomeOf r) s' ∧ s'.forget = s''.forget ∧ R r s'' := by
  obtain ⟨n, r, s₁, s₂, hs, hn, hfo, hR⟩ := wp_halts_full (M := model prog w) (R := R) hreg (wp_of_G (R := fun r s' => R r s' ∧ leftWithCleanup s'.gens = false) h default)
  exact ⟨n, r, s₂, s₁, hn, hs, hfo, hR⟩
theorem callFrom_G {c : ClaimW} {tree : List Value → Sem Fin} {w : World} {s : Shared} {free : Addr → Prop} {gens : Prop} {kept : Heap → Prop} (hz : s.asleep) (hgens : s.gens = #[])
    (hspec : ∀ args, c.pre args = true → WData.layableAll args = true →
      ∀ ord : List DictEntry → List DictEntry, (∀ l, (ord l).Perm l) →
      ∃ vs s₁, layAllW c.records (classAt s.heap) w.params ord args s = some (vs, s₁) ∧
        wpG (model c.prog w) callerA (tree vs) (fun fin s' => ∃ f, fin = .done f ∧ (c.Ends s args vs s₁ (.ok f) s' ∧ s'.os = s.os ∧ AllBare s'.gens ∧ kept s'.heap))
          (fun e s' => c.Ends s args vs s₁ (.error e) s' ∧ s'.os = s.os ∧ AllBare s'.gens ∧ kept s'.heap) s₁) :
    c.CallFrom (fun vs => ⟨tree vs, .builtin "claim.caller" {}, default, []⟩) w free gens kept s := by
  intro args hpre hlay ord hord
  obtain ⟨vs, s₁, hlaid, hcode⟩ := hspec args hpre hlay ord hord
  have hal := layAllW_rest _ _ _ hlaid
  obtain ⟨k, r, s', s'', hrun, hsched, hfo, hcase, hos, hkp⟩ := thread_endsG (prog := c.prog) (w := w) (t := tree vs) (s := s₁)
    (R := fun r s' => c.Ends s args vs s₁ r s' ∧ s'.os = s.os ∧ kept s'.heap)
    (Shared.asleep_of_life hal.2.2.2 hz)
    (G_mono hcode (by
      rintro fin s' ⟨f, e, h1, h2, h3, h4⟩
      exact ⟨f, e, ⟨h1, h2, h4⟩, leftWithCleanup_false_of_bare h3⟩) (by
      rintro e s' ⟨h1, h2, h3, h4⟩
      exact ⟨⟨h1, h2, h4⟩, leftWithCleanup_false_of_bare h3⟩))
  obtain ⟨eh, _, _, eo, _⟩ := Shared.forget_eq hfo
  have hcase := hcase.congr eh
  have hkp : kept s'.heap := by first | exact eh ▸ hkp | (rw [eh] at hkp; exact hkp) | (rw [← eh] at hkp; exact hkp)
  rw [← eo] at hos
  have hlife : s'.heap.life = s.heap.life := (runN_life _ _ _ hrun).trans hal.2.2.2
  refine ⟨vs, s₁, hlaid, k, _, s', hsched, ?_, (fun _ i x hx => by rw [hgens] at hx; simp at hx), hkp, by rw [hlife], Shared.rest_eq hos⟩
  rcases hcase with ⟨v, rfl, d1, d2, d3, d4, d5⟩ | ⟨e, ob, cls, rfl, d1, d2, d3, d4, d5⟩
  · exact .inl ⟨v, rfl, d1, d2, d3, fun b o y _ => d4 b o y, d5⟩
  · exact .inr ⟨e, ob, cls, rfl, d1, d2, d3, d4, fun b o y _ => d5 b o y⟩
theorem openG {r : RowW} {run : Value → List Value → Sem Value} {tree : List Value → Sem Fin} {q : Program} {loose defs kps : List Str} {writes : Bool} {Xt : Shared → Bool} {XP : (Str → Option Value) → Heap → Prop} {α : Type} {Yf : Shared → α} {Ya : World → α} {YP : World → Heap → Prop} {N : Nat}
    (left : LeftO r.prog q loose Xt Yf Ya N) (hY : ∀ w s, Yf s = Ya w → YP w s.heap) (hYk : ∀ w h h', YP w h → (∀ b o, h.get? b = some o → h'.get? b = some o) → YP w h') (hX : ∀ s, Xt s = true → XP (s.heap.nsMap mainGlobals) s.heap) (hXk : ∀ mg h h', XP mg h → (∀ b o, h.get? b = some o → h'.get? b = some o) → XP mg h')
    (hRf : ∀ s, Xt s = true → RecFacts r.records s.heap) (hwr : (!writes || r.records.isEmpty) = true) (ok : (chainsOk q && opensWell r.prog && (frees r && r.within.isEmpty)) = true) (hb : r.prog.bare) (hw : r.promised)
    (ht : ∀ vs (w : World) (s : Shared) mg f (Q : Fin → Shared → Prop) (E : Value → Shared → Prop), s.heap.Ns mainGlobals mg → mg r.name = some f → wpG (model r.prog w) callerA (run f vs) (fun v s' => Q (.done (.ret v)) s') E s → wpG (model r.prog w) callerA (tree vs) Q E s)
    (pin : ∀ w s, s.heap.isNs mainGlobals = true → Ground q loose [] XP w s (s.heap.nsMap mainGlobals) (s.heap.nsMap builtinsNs) s.heap → ∀ n ∈ defs, isTheDefsW r.prog s.heap n)
    (call : ∀ (w : World) (s₀ s₁ : Shared) (mg mb : Str → Option Value), Ground q loose r.records XP w s₀ mg mb s₁.heap → YP w s₁.heap → ∀ (args : List WData) (vs : List Value) (as : List Addr),
      r.claim.pre args = true → WData.layableAll args = true → Laid r.records w s₀ s₁ args vs as → sysModules < s₀.heap.objs.size → ∃ f, mg r.name = some f ∧
        wpG (model r.prog w) callerA (run f vs) (fun v s' => GoodWG r.claim (classAt s₀.heap) (ExcName.means s₀.heap) args s₁ (.ok (.ret v)) s')
          (fun e s' => GoodWG r.claim (classAt s₀.heap) (ExcName.means s₀.heap) args s₁ (.error e) s') s₁) : r.claim.HoldsOpenBy (fun vs => ⟨tree vs, .builtin "claim.caller" {}, default, []⟩) defs kps writes := by
  obtain ⟨ok, k5⟩ := Bool.and_eq_true_iff.mp ok
  obtain ⟨hch, o1⟩ := Bool.and_eq_true_iff.mp ok
  obtain ⟨k5, k6⟩ := Bool.and_eq_true_iff.mp k5
  obtain ⟨hsame, hu, ha, hap, hm⟩ := frees_parts k5
  refine ⟨⟨hb, o1, by show r.makers.map _ = []; rw [hm]; rfl⟩, hw.witness, fun w => ⟨(left.behind hX hch w).1, fun s' hs' => ?_⟩⟩
  obtain ⟨s₀, hf, hg0, s, hT, hz, hgens, hg, G00, y⟩ := (left.behind (XP := fun mg h => XP mg h ∧ RecFacts r.records h) (fun s hs => ⟨hX s hs, hRf s hs⟩) hch w).2 s' hs'
  have G0 : Ground q loose [] XP w s (s.heap.nsMap mainGlobals) (s.heap.nsMap builtinsNs) s.heap := ⟨G00.T, G00.B, G00.D, G00.TE, G00.TD, G00.W, G00.X.1, G00.cls, G00.has, G00.apart, G00.once, G00.K⟩
  have RF := G00.X.2
  have hT' := hT
  refine ⟨s₀, hf, hg0, s, hT, pin w s hg G0, RF.1, RF.2.1, ?_⟩
  have hgens : s.gens = #[] := Array.eq_empty_of_size_eq_zero (beq_iff_eq.mp hgens)
  have G : Ground q loose r.records XP w s _ _ s.heap := RF.ground G0
  refine callFrom_G (c := r.claim) hz hgens fun args hpre hlay ord hord => ?_
  obtain ⟨⟨vs, s₁⟩, hlaid⟩ := Option.isSome_iff_exists.mp (layAllW_isSome (P := w.params) (ord := ord) G.has args r.args s (pre_splitW hpre).1)
  have keeps := layAllW_keeps _ _ _ hlaid
  have hal := layAllW_rest _ _ _ hlaid
  obtain ⟨as, hrd, hin, hold⟩ := reads_layAllW hord _ _ _ hlaid hlay s₁.heap (fun _ _ e => e)
  have L : Laid r.records w s s₁ args vs as := ⟨⟨ord, hord, hlaid⟩, hrd, hin, hold, keeps, hal.1.trans hgens, hal.2.2.1⟩
  have G₁ := G.keeps hXk keeps
  obtain ⟨f, hf, h⟩ := call w s s₁ _ _ G₁ (hYk _ _ _ (hY w s y) keeps) args vs as hpre hlay L G.low
  have hi := ident_freeW hu ha hap
  have hwi : r.claim.within = [] := List.isEmpty_iff.mp k6
  exact ⟨vs, s₁, hlaid, ht vs w s₁ _ f _ _ G₁.T.g hf (G_mono h (fun v s' g => ⟨_, rfl, have z := g.laid (c := r.claim) hsame hwi hi L; ⟨z.1, z.2.1, z.2.2, fun q => ⟨namesKept_of hT' hg kps keeps g.2.1.old, noTable hwr q⟩⟩⟩) fun e s' g => have z := g.laid (c := r.claim) hsame hwi hi L; ⟨z.1, z.2.1, z.2.2, fun q => ⟨namesKept_of hT' hg kps keeps g.2.1.old, noTable hwr q⟩⟩)⟩
abbrev WalkOG (q : Program) (loose : List Str) (XP : (Str → Option Value) → Heap → Prop) (YP : World → Heap → Prop) (r : RowW) (d : DefRec) (kwd : List (Str × Expr)) : Prop :=
  ∀ (w : World) (s₀ s₁ : Shared) (mg mb : Str → Option Value), Ground q loose r.records XP w s₀ mg mb s₁.heap → YP w s₁.heap → ∀ (a : Addr) (o : Obj) (pm cd doc dV kV : Value), s₁.heap.get? a = some o →
    o.data = .func { docDef d.name d.params d.body d.scope pm cd doc with defaults := dV, kwdefaults := kV } → s₁.heap.CodeRec cd d.name → Dflts mg s₁.heap d.params kwd dV kV → mg d.name = some (.ref a) → s₁.gens = #[] →
    ∀ (args : List WData) (vals : List Value) (as : List Addr), r.claim.pre args = true → WData.layableAll args = true → ReadsAllW r.records (classAt s₀.heap) s₁.heap vals args as → WellAll w.params s₁.heap vals args → (∀ a ∈ as, (a == sysModules) = false) →
      codeG (model r.prog w) callerA (.call (.ref a) ⟨vals, []⟩) (GoodWG r.claim (classAt s₀.heap) (ExcName.means s₀.heap) args s₁) s₁
theorem enter_callG {M : Model} {A : Around} {s : Shared} {f : Value} {pos : List Value} {kw : List (Str × Value)} {c : ClaimW} {cl : Str → Option Addr} {mean : ExcName → Option Value} {args : List WData} {s₁ : Shared}
    (h : codeG M A (.call f ⟨pos, kw⟩) (GoodWG c cl mean args s₁) s) : wpG M A (PySem.call f pos kw) (fun v s' => GoodWG c cl mean args s₁ (.ok (.ret v)) s') (fun e s' => GoodWG c cl mean args s₁ (.error e) s') s :=
  G_call (codeG_mono h fun res s' g => by rcases g.1 with ⟨v, _, _, rfl, _⟩ | ⟨e, _, _, rfl, _⟩ <;> exact g)
theorem PySem.W.holds_open {r : OpenRow} {q : Program} {loose : List Str} {Xt : Shared → Bool} {XP : (Str → Option Value) → Heap → Prop} {α : Type} {Yf : Shared → α} {Ya : World → α} {YP : World → Heap → Prop} {d : DefRec} {kwd : List (Str × Expr)} {N : Nat}
    (left : LeftO r.prog q loose Xt Yf Ya N) (hY : ∀ w s, Yf s = Ya w → YP w s.heap) (hYk : ∀ w h h', YP w h → (∀ b o, h.get? b = some o → h'.get? b = some o) → YP w h')
    (hX : ∀ s, Xt s = true → XP (s.heap.nsMap mainGlobals) s.heap) (hXk : ∀ mg h h', XP mg h → (∀ b o, h.get? b = some o → h'.get? b = some o) → XP mg h')
    (hdef : defOf q r.name = some (d, kwd)) (hp : r.prog.theDef r.name = some (d.params, d.body, d.scope)) (hk : kwWritten? d.params.kwonlyargs d.params.kw_defaults = some kwd) (hRf : ∀ s, Xt s = true → RecFacts r.records s.heap) (hwr : (!r.writes || r.records.isEmpty) = true)
    (k1 : r.wellSaid = true) (ok : (chainsOk q && opensWell r.prog && (frees r.toRowW && r.within.isEmpty)) = true) (hb : r.prog.bare) (hw : r.toRowW.promised)
    (call : WalkOG q loose XP YP r.toRowW d kwd) : r.Holds := by
  refine ⟨k1, hw, openG (r := r.toRowW) (run := fun f vs => PySem.call f vs) (tree := fun vs => do match ← nsGet mainNs r.name with
      | some f => do ret (← PySem.call f vs)
      | none => unsupported "claim.caller:no-such-global") left hY hYk hX hXk hRf hwr ok hb hw
    (fun vs w s mg f Q E hg hf h => G_then (wpAny_nsGet hg (by rw [hf]; exact G_bind (G_mono h (fun _ _ x => G_pure x) fun _ _ x => x))))
    (fun w s hg G n hn => ?_) fun w s₀ s₁ mg mb G Y args vs as hpre hlay L low => ?_⟩
  · obtain rfl : n = r.name := by split at hn <;> simp_all
    exact pinned_of_view hg G hdef hp hk
  · obtain ⟨a, o, pm, cd, doc, dV, kV, h1, h2, h3, h4, h5⟩ := G.fn hdef
    exact ⟨.ref a, h1, enter_callG (call w s₀ s₁ mg mb G Y a o pm cd doc dV kV h2 h3 h4 h5 (defOf_name hdef ▸ h1) L.gens args vs as hpre hlay L.reads L.well (L.low low))⟩
set_option maxHeartbeats 8000000 in
open_top hd for PySem.Challenge.rw_ae6013_01
end Mine
namespace Mine
theorem BA.type_dict_update : typeOf (.builtin "dict.update") = pure (.type "method_descriptor") := by show builtinType _ = _; rw [builtinType_eq_fast]; kernel_rfl
theorem filled : PySem.Challenge.rw_ae6013_01 = PySem.Challenge.rw_ae6013_01 → hd.heap_39 = hd.heap_39 → True := by
  k_fill
  intro _ _; trivial
/-- a def's call, everything that stands at the call kept -/
theorem enterK {prog : Program} {w : World} {A : Around} {base : Heap} {outer : List Env} {s : Shared} {K : Frag} {p : Program} {loose : List Str} {mean : ExcName → Option Value} {mg mb : Str → Option Value}
    {R : Result → Shared → Prop} {name qual : Str} {params : Arguments} {body : List Stmt} {scope : Scope} {dV kV doc pm cdv ct oc : Value} {an od : Option Addr} {osl : Array (Option Value)} {f : Addr} {args : Args} {binds : List (Str × Value)}
    (B : Below A base outer s.heap) (X : K.In s.heap) (T : Top p loose mean mg mb s.heap)
    (ho : K.lookup f = some ⟨oc, od, .func (fnOf name qual params body scope dV kV doc pm an cdv ct), osl⟩) (hcd : codeIn K cdv qual = true) (hroom : A.depth < recursionLimit)
    (hbind : BindsTo s (fnOf name qual params body scope dV kV doc pm an cdv ct) args binds) (hloc : ∀ y ∈ binds, scope.names.lookup y.1 = some .local)
    (h : ∀ L' h₁, Fr s.heap L' h₁ (fun y => binds.reverse.lookup y) → News s.heap L' h₁ [] →
      wpAny (model prog w) (A.deeper (envOf qual scope L' f cdv)) (execs body (envOf qual scope L' f cdv))
        (fun fl s' => R (.ok (.ret (match fl with | .ret v => v | _ => .none))) s')
        (fun e s' => wpAny (model prog w) (A.deeper (envOf qual scope L' f cdv)) (leaving (envOf qual scope L' f cdv) e) (fun _ s'' => R (.error e) s'') (fun e' s'' => R (.error e') s'') s')
        { s with heap := h₁, toks := s.toks + binds.length })
    (hco : scope.isCoroutine = false) (hgen : scope.isGenerator = false) (hk : scope.kind = .function)
    (hcell : ∀ x ∈ scope.names, x.2 ≠ .cell) : codeAny (model prog w) A (.call (.ref f) args) R s :=
  codeAny_call_def (fd := fnOf name qual params body scope dV kV doc pm an cdv ct) (body := body) (binds := binds) hroom (X _ _ ho) rfl T.nolimit (codeRec_of X hcd) rfl hbind hcell hloc
    (fun h₁ hns hk₁ => h _ h₁ ⟨hns, hk₁, Nat.le_refl _⟩ (fun _ hp => nomatch hp)) hco hgen hk
/-- a def with cells -/
theorem enterKC {prog : Program} {w : World} {A : Around} {base : Heap} {outer : List Env} {s : Shared} {K : Frag} {p : Program} {loose : List Str} {mean : ExcName → Option Value} {mg mb : Str → Option Value}
    {R : Result → Shared → Prop} {name qual : Str} {params : Arguments} {body : List Stmt} {scope : Scope} {dV kV doc pm cdv ct oc : Value} {an od : Option Addr} {osl : Array (Option Value)} {f : Addr} {args : Args} {binds : List (Str × Value)}
    (_B : Below A base outer s.heap) (X : K.In s.heap) (T : Top p loose mean mg mb s.heap)
    (ho : K.lookup f = some ⟨oc, od, .func (fnOf name qual params body scope dV kV doc pm an cdv ct), osl⟩) (hcd : codeIn K cdv qual = true) (hroom : A.depth < recursionLimit)
    (hbind : BindsTo s (fnOf name qual params body scope dV kV doc pm an cdv ct) args binds) (hkind : (binds.all fun y => scope.names.lookup y.1 == some .local || scope.names.lookup y.1 == some .cell) = true)
    (hnd : ((cellsFrom 0 scope.names []).map (·.1)).Nodup)
    (h : ∀ L' h₁ tk cells, Fr s.heap L' h₁ (bindL (envOfC qual scope L' f cdv).kindOf binds fun _ => none) → News s.heap L' h₁ cells →
      CellsAre (bindC (envOfC qual scope L' f cdv).kindOf binds fun _ => none) (cellsFrom (L' + 1) scope.names []) cells →
      wpAny (model prog w) (A.deeper (envOfC qual scope L' f cdv)) (execs body (envOfC qual scope L' f cdv))
        (fun fl s' => R (.ok (.ret (match fl with | .ret v => v | _ => .none))) s')
        (fun e s' => wpAny (model prog w) (A.deeper (envOfC qual scope L' f cdv)) (leaving (envOfC qual scope L' f cdv) e) (fun _ s'' => R (.error e) s'') (fun e' s'' => R (.error e') s'') s')
        { s with heap := h₁, toks := tk })
    (hco : scope.isCoroutine = false) (hgen : scope.isGenerator = false) (hk : scope.kind = .function) : codeAny (model prog w) A (.call (.ref f) args) R s := by
  have e := X _ _ ho
  refine codeAny_call_function (fd := fnOf name qual params body scope dV kV doc pm an cdv ct) hroom e rfl hco hgen rfl (codeRec_of X hcd) (hbind _ _ _ _ ?_)
  refine wpAny_newFunctionEnv_cells hk (kindsX hkind _) fun env' he s' x => ?_
  subst he
  refine ⟨T.nolimit.keeps x.toInCall.keep, codeAny_func ?_⟩
  obtain ⟨h₁, tk, rfl, _⟩ := x.done
  have hk₁ := x.toInCall.keep
  obtain ⟨cells, NC, Y⟩ := Cl.news (h₀ := s.heap) (Nat.le_refl _) fun n c hm => ⟨x.cell n c (lookup_of_mem_nodup (cellsFrom_names scope.names 0 (s.heap.objs.size + 1) [] [] rfl ▸ hnd) hm), x.above n c hm⟩
  exact h s.heap.objs.size h₁ tk cells ⟨x.toInCall.ns, hk₁, Nat.le_refl _⟩ NC Y
/-- a def with cells -/
theorem enterGC {prog : Program} {w : World} {A : Around} {base : Heap} {outer : List Env} {s : Shared} {K : Frag} {p : Program} {loose : List Str} {mean : ExcName → Option Value} {mg mb : Str → Option Value}
    {R : Result → Shared → Prop} {name qual : Str} {params : Arguments} {body : List Stmt} {scope : Scope} {dV kV doc pm cdv ct oc : Value} {an od : Option Addr} {osl : Array (Option Value)} {f : Addr} {args : Args} {binds : List (Str × Value)}
    (_B : Below A base outer s.heap) (X : K.In s.heap) (T : Top p loose mean mg mb s.heap)
    (ho : K.lookup f = some ⟨oc, od, .func (fnOf name qual params body scope dV kV doc pm an cdv ct), osl⟩) (hcd : codeIn K cdv qual = true) (hroom : A.depth < recursionLimit)
    (hbind : BindsTo s (fnOf name qual params body scope dV kV doc pm an cdv ct) args binds) (hkind : (binds.all fun y => scope.names.lookup y.1 == some .local || scope.names.lookup y.1 == some .cell) = true)
    (hnd : ((cellsFrom 0 scope.names []).map (·.1)).Nodup)
    (h : ∀ L' h₁ tk cells, Fr s.heap L' h₁ (bindL (envOfC qual scope L' f cdv).kindOf binds fun _ => none) → News s.heap L' h₁ cells →
      CellsAre (bindC (envOfC qual scope L' f cdv).kindOf binds fun _ => none) (cellsFrom (L' + 1) scope.names []) cells →
      wpG (model prog w) (A.deeper (envOfC qual scope L' f cdv)) (execs body (envOfC qual scope L' f cdv))
        (fun fl s' => R (.ok (.ret (match fl with | .ret v => v | _ => .none))) s')
        (fun e s' => wpAny (model prog w) (A.deeper (envOfC qual scope L' f cdv)) (leaving (envOfC qual scope L' f cdv) e) (fun _ s'' => R (.error e) s'') (fun e' s'' => R (.error e') s'') s')
        { s with heap := h₁, toks := tk })
    (hco : scope.isCoroutine = false) (hgen : scope.isGenerator = false) (hk : scope.kind = .function) : codeG (model prog w) A (.call (.ref f) args) R s := by
  have e := X _ _ ho
  refine codeG_call_function (fd := fnOf name qual params body scope dV kV doc pm an cdv ct) hroom e rfl hco hgen rfl (codeRec_of X hcd) (hbind _ _ _ _ ?_)
  refine wpAny_newFunctionEnv_cells hk (kindsX hkind _) fun env' he s' x => ?_
  subst he
  refine ⟨T.nolimit.keeps x.toInCall.keep, codeG_func ?_⟩
  obtain ⟨h₁, tk, rfl, _⟩ := x.done
  have hk₁ := x.toInCall.keep
  obtain ⟨cells, NC, Y⟩ := Cl.news (h₀ := s.heap) (Nat.le_refl _) fun n c hm => ⟨x.cell n c (lookup_of_mem_nodup (cellsFrom_names scope.names 0 (s.heap.objs.size + 1) [] [] rfl ▸ hnd) hm), x.above n c hm⟩
  exact h s.heap.objs.size h₁ tk cells ⟨x.toInCall.ns, hk₁, Nat.le_refl _⟩ NC Y
noncomputable abbrev P : Program := PySem.Challenge.rw_ae6013_01.row.prog
noncomputable abbrev loose : List Str := looseW hd.view_39 [Str.ofString "SPEC_BY_TYPE", Str.ofString "DEFAULT_VALUES", Str.ofString "BaseMessage", Str.ofString "Message"]
abbrev TopG (mean : ExcName → Option Value) (mg mb : Str → Option Value) (h : Heap) : Prop := Top hd.view_39 loose mean mg mb h
/-- a contract's frame: what stands stays; the answer and the new heap meet Post; k: room for k calls within -/
abbrev Ctr (k : Nat) (w : World) (mean : ExcName → Option Value) (mg mb : Str → Option Value) (f : Addr) (args : Args) (s : Shared) (Post : Value → Heap → Prop) : Prop :=
  ∀ (A : Around) (base : Heap) (outer : List Env) (R : Result → Shared → Prop), A.handled = none → Below A base outer s.heap →
    (hd.heap_39 w.params).In s.heap → TopG mean mg mb s.heap → A.depth + 10 * k < recursionLimit → A.units + 40 * k < cLine →
    (∀ v h' tk, (∀ b o, s.heap.get? b = some o → h'.get? b = some o) → Post v h' → R (.ok (.ret v)) { s with heap := h', toks := tk }) →
    codeAny (model P w) A (.call (.ref f) args) R s
abbrev CtrG (k : Nat) (w : World) (mean : ExcName → Option Value) (mg mb : Str → Option Value) (f : Addr) (args : Args) (s : Shared) (Post : Value → Heap → Prop) : Prop :=
  ∀ (A : Around) (base : Heap) (outer : List Env) (R : Result → Shared → Prop), A.handled = none → Below A base outer s.heap →
    (hd.heap_39 w.params).In s.heap → TopG mean mg mb s.heap → A.depth + 10 * k < recursionLimit → A.units + 40 * k < cLine →
    (∀ v h' tk, (∀ b o, s.heap.get? b = some o → h'.get? b = some o) → Post v h' → R (.ok (.ret v)) { s with heap := h', toks := tk }) →
    codeG (model P w) A (.call (.ref f) args) R s
/-- the stack below, seen from the heap at hand -/
theorem below_here {A₀ A' : Around} {base h₀ h : Heap} {outer : List Env} {L : Addr} {m : Str → Option Value} {env : Env} (B : Below A₀ base outer h₀) (F : Fr h₀ L h m)
    (hA : A'.frames = some (env :: outer)) (hf : env.frame = some L) (hke : env.scope.kind = .function) : Below A' base (env :: outer) h :=
  let x := pushX B F hf hke; ⟨hA, x.stays, x.frames⟩
theorem fr_keep {h₀ h h' : Heap} {L : Addr} {m : Str → Option Value} (F : Fr h₀ L h m) (hk : ∀ b o, h.get? b = some o → h'.get? b = some o) : Fr h₀ L h' m :=
  ⟨F.ns.keeps hk, fun b o e => hk b o (F.keep b o e), F.above⟩
theorem news_keep {h₀ h h' : Heap} {L : Addr} {news : List (Addr × Obj)} (N : News h₀ L h news) (hk : ∀ b o, h.get? b = some o → h'.get? b = some o) : News h₀ L h' news :=
  fun p hp => ⟨hk _ _ (N p hp).1, (N p hp).2⟩
/-- objects that a call has made go onto the ledger -/
theorem news_more {h₀ h h' : Heap} {L : Addr} {m : Str → Option Value} {news : List (Addr × Obj)} (F : Fr h₀ L h m) (N : News h₀ L h news) (hk : ∀ b o, h.get? b = some o → h'.get? b = some o) :
    ∀ (more : List (Addr × Obj)), (∀ p ∈ more, h'.get? p.1 = some p.2 ∧ h.get? p.1 = none) → News h₀ L h' (more ++ news)
  | more, hm => fun p hp => by
    rcases List.mem_append.mp hp with q | q
    · refine ⟨(hm p q).1, fun e => ?_, ?_⟩
      · obtain ⟨o, _, _, ho, _⟩ := F.ns
        have := (hm p q).2
        rw [e, ho] at this
        cases this
      · cases z : h₀.get? p.1 with
        | none => rfl
        | some o => have := (hm p q).2; rw [F.keep _ _ z] at this; cases this
    · exact news_keep N hk p q
def AllNe (d : Nat) : List (Addr × Obj) → Prop
  | [] => True
  | p :: r => @Ne Nat p.1 d ∧ AllNe d r
theorem allNe_of {h₀ h : Heap} {L d : Addr} (e : h.get? d = none) : ∀ {news : List (Addr × Obj)}, News h₀ L h news → AllNe d news
  | [], _ => trivial
  | p :: r, N => ⟨fun q => (by have := (N p (.head _)).1; rw [q, e] at this; cases this), allNe_of e fun x hx => N x (.tail _ hx)⟩
theorem none_of_keep {h₀ h : Heap} {L : Addr} {m : Str → Option Value} {x : Addr} (F : Fr h₀ L h m) (e : h.get? x = none) : h₀.get? x = none := by
  cases q : h₀.get? x with
  | none => rfl
  | some o => rw [F.keep _ _ q] at e; cases e
theorem ne_local {h₀ h : Heap} {L : Addr} {m : Str → Option Value} {x : Addr} (F : Fr h₀ L h m) (e : h.get? x = none) : x ≠ L := fun q => by
  obtain ⟨o, _, _, ho, _⟩ := F.ns
  rw [q, ho] at e; cases e
theorem news_add {h₀ h : Heap} {L d : Addr} {o : Obj} {news : List (Addr × Obj)} (N : News h₀ L h news) (hl : h.get? d = some o) (hd : h₀.get? d = none ∧ d ≠ L ∧ AllNe d news) : News h₀ L h ((d, o) :: news) := fun p hp => by
  rcases List.mem_cons.mp hp with rfl | hp
  · exact ⟨hl, hd.2.1, hd.1⟩
  · exact N p hp
theorem Ctr.use {w : World} {mean : ExcName → Option Value} {mg mb : Str → Option Value} {s : Shared} {k : Nat} {f : Addr} {args : Args} {Post : Value → Heap → Prop} {A₀ A : Around} {base h₀ : Heap} {outer : List Env} {L : Addr} {m : Str → Option Value} {env : Env} {news : List (Addr × Obj)} {R : Result → Shared → Prop}
    (C : Ctr k w mean mg mb f args s Post) (B : Below A₀ base outer h₀) (F : Fr h₀ L s.heap m) (N : News h₀ L s.heap news) (X : (hd.heap_39 w.params).In h₀) (T : TopG mean mg mb h₀)
    (hA : A.frames = some (env :: outer)) (hf : env.frame = some L) (hke : env.scope.kind = .function) (hh : A.handled = none) (hdp : A.depth + 10 * k < recursionLimit) (hun : A.units + 40 * k < cLine)
    (hR : ∀ v h' tk, (∀ b o, s.heap.get? b = some o → h'.get? b = some o) → (∀ x, s.heap.get? x = none → h₀.get? x = none ∧ x ≠ L ∧ AllNe x news) → Post v h' → Fr h₀ L h' m → News h₀ L h' news → R (.ok (.ret v)) { s with heap := h', toks := tk }) :
    codeAny (model P w) A (.call (.ref f) args) R s :=
  C A base (env :: outer) _ hh (below_here B F hA hf hke) (X.keeps F.keep) (T.keeps F.keep) hdp hun fun v h' tk hk hp => hR v h' tk hk (fun x e => ⟨none_of_keep F e, ne_local F e, allNe_of e N⟩) hp (fr_keep F hk) (news_keep N hk)
theorem CtrG.use {w : World} {mean : ExcName → Option Value} {mg mb : Str → Option Value} {s : Shared} {k : Nat} {f : Addr} {args : Args} {Post : Value → Heap → Prop} {A₀ A : Around} {base h₀ : Heap} {outer : List Env} {L : Addr} {m : Str → Option Value} {env : Env} {news : List (Addr × Obj)} {R : Result → Shared → Prop}
    (C : CtrG k w mean mg mb f args s Post) (B : Below A₀ base outer h₀) (F : Fr h₀ L s.heap m) (N : News h₀ L s.heap news) (X : (hd.heap_39 w.params).In h₀) (T : TopG mean mg mb h₀)
    (hA : A.frames = some (env :: outer)) (hf : env.frame = some L) (hke : env.scope.kind = .function) (hh : A.handled = none) (hdp : A.depth + 10 * k < recursionLimit) (hun : A.units + 40 * k < cLine)
    (hR : ∀ v h' tk, (∀ b o, s.heap.get? b = some o → h'.get? b = some o) → (∀ x, s.heap.get? x = none → h₀.get? x = none ∧ x ≠ L ∧ AllNe x news) → Post v h' → Fr h₀ L h' m → News h₀ L h' news → R (.ok (.ret v)) { s with heap := h', toks := tk }) :
    codeG (model P w) A (.call (.ref f) args) R s :=
  C A base (env :: outer) _ hh (below_here B F hA hf hke) (X.keeps F.keep) (T.keeps F.keep) hdp hun fun v h' tk hk hp => hR v h' tk hk (fun x e => ⟨none_of_keep F e, ne_local F e, allNe_of e N⟩) hp (fr_keep F hk) (news_keep N hk)
/-- a message: its object, its own dict, its fields, its row -/
structure Msg (w : World) (h : Heap) (a dx f t : Addr) (n : Nat) (hs : Int) (tf t1 t2 : Tok) (tm : Int) (vs : List Value) (ns : List Int) : Prop where
  obj : h.get? a = some (instObj 391 dx)
  dic : h.get? dx = some (dictOf [⟨hs, .str (Str.ofString "fields") tf, .ref f⟩] n)
  fld : h.DictOf (strKind P w) f [(Str.ofString "type", .str (Str.ofString "sysex") t1), (Str.ofString "time", .int tm t2), (Str.ofString "data", .ref t)]
  low : (f == sysModules) = false
  tup : h.IsTuple t vs.toArray
  rowI : IntsAre vs ns
theorem Msg.keeps {w : World} {h h' : Heap} {a dx f t : Addr} {n : Nat} {hs : Int} {tf t1 t2 : Tok} {tm : Int} {vs : List Value} {ns : List Int} (M : Msg w h a dx f t n hs tf t1 t2 tm vs ns)
    (hk : ∀ b o, h.get? b = some o → h'.get? b = some o) : Msg w h' a dx f t n hs tf t1 t2 tm vs ns :=
  ⟨hk _ _ M.obj, hk _ _ M.dic, M.fld.keep hk, M.low, let ⟨o, ho, r⟩ := M.tup; ⟨o, hk _ _ ho, r⟩, M.rowI⟩
theorem Msg.inst {w : World} {h : Heap} {a dx f t : Addr} {n : Nat} {hs : Int} {tf t1 t2 : Tok} {tm : Int} {vs : List Value} {ns : List Int} (M : Msg w h a dx f t n hs tf t1 t2 tm vs ns) :
    InstAt h a ⟨.ref 391, some dx, .plain, #[]⟩ 391 (some (dictOf [⟨hs, .str (Str.ofString "fields") tf, .ref f⟩] n)) := ⟨M.obj, rfl, rfl, M.dic⟩
theorem dict_copy_lo {w : World} {A : Around} {E : Value → Shared → Prop} {s : Shared} {h₀ : Heap} {L d : Addr} {m : Str → Option Value} {news : List (Addr × Obj)} {kvs : List (Str × Value)} {Q : Value → Shared → Prop} (F : Fr h₀ L s.heap m) (N : News h₀ L s.heap news) (hd : s.heap.DictOf (strKind P w) d kvs) (lo : (d == sysModules) = false) (hlim : h₀.NoLimit) (hsz : kvs.length ≤ sizeLine)
    (h : ∀ d' h' o, Fr h₀ L h' m → News h₀ L h' ((d', o) :: news) → (∀ p ∈ news, p.1 < d') → o.IsDictOf (strKind P w) kvs → (d' == sysModules) = false → Q (.ref d') { s with heap := h' }) :
    wpAny (model P w) A (call (.builtin "dict.copy") [.ref d]) Q E s := by
  refine call_meetsIn PySem.F.slot_dict_copy hd.typeIs PySem.F.entry_dict_copy (PySem.F.args_dict_copy_1 _) (meets_dict_copy (strKind P w) d lo) ⟨kvs, hd, hsz, fun h' hd' _ hk => ?_⟩
  obtain ⟨o, ho, hdo⟩ := Heap.dictOf_iff.mp hd'
  exact h _ h' o (fr_keep F hk) (news_pushed F N hk ho rfl) (fun p hp => Heap.lt_size (N p hp).1) hdo (F.notModules (modules_low hlim))
end Mine
namespace Mine
theorem filledC1 : PySem.Challenge.rw_ae6013_01 = PySem.Challenge.rw_ae6013_01 → hd.heap_39 = hd.heap_39 → True := by
  k_fill
  intro _ _; trivial
local macro_rules | `(tactic| k_room) => `(tactic| ktr_room)
local macro_rules | `(tactic| k_units) => `(tactic| ktr_units)
theorem fmod_low {x m : Int} (hm : 0 < m) : 0 ≤ x.fmod m ∧ x.fmod m < m := by
  rw [Int.fmod_eq_emod_of_nonneg x (Int.le_of_lt hm)]
  exact ⟨Int.emod_nonneg _ (by omega), Int.emod_lt_of_pos _ hm⟩
set_option maxHeartbeats 4000000 in
theorem law_at_spec {w : World} {mean : ExcName → Option Value} {mg mb : Str → Option Value} {s : Shared} {l : Addr} {vs : List Value} {ns : List Int} {k : Int} {t : Tok}
    (hl : s.heap.IsList l vs.toArray) (hi : IntsAre vs ns) (hz : ns.length ≤ 63) (h0 : 0 ≤ k) (h1 : k ≤ 4) :
    Ctr 1 w mean mg mb 400 ⟨[.ref l, .int k t], []⟩ s (fun v _ => ∃ n t, v = .int n t ∧ 0 ≤ n ∧ n ≤ 1000000007) := by
  intro A base outer R hh B X T hdp hun hR
  obtain ⟨_, dp, fr, gd, un⟩ := A
  obtain rfl := hh
  obtain rfl := B.stack
  refine' enterK (binds := [(Str.ofString "script", .ref l), (Str.ofString "k", .int k t)]) B X T ?k6 ?k7 ?k8 ?k9 ?kB ?_ ?c2 ?c3 ?c4 ?c5
  case k6 => k_is
  case k7 => k_is
  case k8 => ktr_room
  case k9 => exact BindsTo.of_eq rfl
  case kB => exact locs rfl
  case c2 => rfl
  case c3 => rfl
  case c4 => rfl
  case c5 => decide
  intro L' h₁ F N
  try dsimp only
  k_steps
  all_goals (dsimp only; refine hR _ _ _ F.keep ⟨_, _, rfl, ?_⟩)
  · have := fmod_low (x := ns.getD (k.fmod ↑ns.length).toNat 0 + 13 * k.fdiv ↑ns.length) (m := 1000000007) (by decide)
    omega
  · omega
end Mine
namespace Mine
theorem intsAre_of : ∀ (vs : List Value) (ns : List Int), vs.length = ns.length → (∀ (i : Nat) (v : Value), vs[i]? = some v → ∃ n t, ns[i]? = some n ∧ v = .int n t) → IntsAre vs ns
  | [], [], _, _ => .nil
  | v :: vs, n :: ns, hl, h => by
    obtain ⟨n', t, e, rfl⟩ := h 0 v rfl
    have e : some n = some n' := e
    cases e
    exact .cons n t (intsAre_of vs ns (Nat.succ.inj hl) fun i v hv => h (i + 1) v (by simpa using hv))
theorem ints_of_items {acc : Array Value} {ns : List Int} (hr : ∀ n ∈ ns, 0 ≤ n ∧ n < 256) (h : ItemsOf (fun i v => ∃ c u, (byteArr ns)[i]? = some c ∧ v = .int (c.toNat : Int) u) acc ns.length) : IntsAre acc.toList ns := by
  refine intsAre_of _ _ (by simpa using h.1) fun i v hv => ?_
  obtain ⟨c, u, hc, rfl⟩ := h.2 i v (by simpa using hv)
  exact ⟨_, u, byteArr_at hr hc, rfl⟩
section
variable {prog : Program} {w : World} {A : Around} {E : Value → Shared → Prop} {s : Shared}
theorem tuple_handed {v : Value} {ns : List Int} {Q : Value → Shared → Prop} (H : Handed s.heap v ns) (hh : A.handled = none) (hn : ns.length ≤ sizeLine)
    (h_same : ∀ t vs, v = .ref t → s.heap.IsTuple t vs.toArray → IntsAre vs ns → Q v s)
    (h_new : ∀ (h' : Heap) (tk : Nat) (vs : List Value), (∀ b o, s.heap.get? b = some o → h'.get? b = some o) → IntsAre vs ns → Q (.ref h'.objs.size) { s with heap := h'.push { cls := .type "tuple", data := .seq vs.toArray }, toks := tk }) :
    wpAny (model prog w) A (call (.type "tuple") [v]) Q E s := by
  cases H with
  | list hl hi =>
    rename_i l vs
    exact call_tuple_list hl (fun h' hk => h_new h' s.toks vs hk hi) (by have := hi.length; simp only [List.size_toArray]; omega)
  | tuple hl hi => exact call_tuple_same hl (h_same _ _ rfl hl hi)
  | bytes hr =>
    refine call_tuple_walk (iterates_bytes _ _) hh (by rw [byteArr_size]; exact hn) fun h' tk acc hk hacc => ?_
    rw [byteArr_size] at hacc
    have := h_new h' tk acc.toList hk (ints_of_items hr hacc)
    simpa using this
  | barr hr hl =>
    refine call_tuple_walk (iterates_ba hl) hh (by rw [byteArr_size]; exact hn) fun h' tk acc hk hacc => ?_
    rw [byteArr_size] at hacc
    have := h_new h' tk acc.toList hk (ints_of_items hr hacc)
    simpa using this
/-- tuple(v) in a frame: v itself, or a new tuple on the ledger -/
theorem tuple_K {h₀ : Heap} {L : Addr} {m : Str → Option Value} {news : List (Addr × Obj)} {v : Value} {ns : List Int} {Q : Value → Shared → Prop} (F : Fr h₀ L s.heap m) (N : News h₀ L s.heap news) (H : Handed h₀ v ns) (hh : A.handled = none) (hn : ns.length ≤ 6)
    (h_same : ∀ t vs, v = .ref t → IsTup h₀ t vs.toArray → IntsAre vs ns → Q (.ref t) s)
    (h_new : ∀ (t : Addr) (vs : List Value) (h' : Heap) (tk : Nat), Fr h₀ L h' m → News h₀ L h' ((t, { cls := .type "tuple", data := .seq vs.toArray }) :: news) → (∀ p ∈ news, p.1 < t) → IntsAre vs ns → Q (.ref t) { s with heap := h', toks := tk }) :
    wpAny (model prog w) A (call (.type "tuple") [v]) Q E s := by
  have hn' : ns.length ≤ sizeLine := by rw [sizeLine_eq]; omega
  refine tuple_handed (H.keeps F.keep) hh hn' (fun t vs e ht hi => ?_) fun h' tk vs hk hi => ?_
  · subst e
    cases H with
    | list hl' _ =>
      obtain ⟨o, ho, hc, _⟩ := hl'
      obtain ⟨o', ho', hc', _⟩ := ht
      rw [F.keep _ _ ho] at ho'; cases ho'
      rw [hc] at hc'; exact absurd hc' (by decide)
    | tuple hl' hi' =>
      rename_i vs'
      exact h_same t vs' rfl hl' hi'
    | barr _ hl' =>
      obtain ⟨o', ho', hc', _⟩ := ht
      rw [F.keep _ _ hl'] at ho'; cases ho'
      exact absurd (show Value.type "bytearray" = Value.type "tuple" from hc') (by decide)
  · have F' := fr_keep F hk
    exact h_new _ vs _ tk (F'.push _) ((news_keep N hk).push F' _) (fun p hp => Heap.lt_size (hk _ _ (N p hp).1)) hi
/-- a name goes into a dict of the own -/
theorem nsSet_own {d : Addr} {es : List DictEntry} {n : Nat} {k : Str} {v : Value} {Q : Unit → Shared → Prop} (D : s.heap.get? d = some (dictOf es n))
    (hs : ∀ e ∈ es, e.key.isStr k = false) (hr : ∀ e ∈ es, e.refKey = false)
    (h : ∀ (h' : Heap), (∀ b o, b ≠ d → s.heap.get? b = some o → h'.get? b = some o) → h'.objs.size = s.heap.objs.size → h'.get? d = some (dictOf (es ++ [⟨PyData.keyHash w.params k, .str k s.toks, v⟩]) (n + 1)) → Q () { s with heap := h', toks := s.toks + 1 }) :
    wpAny (model prog w) A (nsSet d k v) Q E s := by
  have e1 : es.any (·.key.isStr k) = false := by
    cases q : es.any (·.key.isStr k) with
    | false => rfl
    | true => obtain ⟨e, he, z⟩ := List.any_eq_true.mp q; rw [hs e he] at z; cases z
  have e2 : es.any (·.refKey) = false := by
    cases q : es.any (·.refKey) with
    | false => rfl
    | true => obtain ⟨e, he, z⟩ := List.any_eq_true.mp q; rw [hr e he] at z; cases z
  have e : Obj.putName k (PyData.keyHash w.params k) (.str k s.toks) v (dictOf es n) = dictOf (es ++ [⟨PyData.keyHash w.params k, .str k s.toks, v⟩]) (n + 1) := by
    rw [putName_dict, putL_new hs]
    show dictOf _ (if es.any (·.key.isStr k) then n else n + 1) = _
    rw [e1, if_neg Bool.false_ne_true]
  have c : aRefKeyMayBeTheName k es.toArray = false := by
    rw [aRefKeyMayBeTheName_at, ← Array.any_toList, ← Array.any_toList]
    show (!es.any (·.key.isStr k) && es.any (·.refKey)) = false
    rw [e2, Bool.and_false]
  have hh := h (s.heap.update d (Obj.putName k (PyData.keyHash w.params k) (.str k s.toks) v)) (fun b o hb ho => (Heap.get?_update_other _ _ (Ne.symm hb)).trans ho) (by simp [Heap.update])
    (by rw [← e]; exact Heap.get?_update_self _ D (by rw [e]; rfl))
  unfold nsSet
  refine wpAny_bind (wpAny_bind (wpAny_askSetting (wpAny_pure (wpAny_bind (wpAny_mkText (wpAny_bind (wpAny_loadPart D ?_)))))))
  dsimp only
  rw [c]
  exact wpAny_updatePart D hh
theorem fill_own {d : Addr} {Q : PUnit → Shared → Prop} : ∀ (ex : List (Str × Value)) (s : Shared) (es : List DictEntry) (n : Nat), s.heap.get? d = some (dictOf es n) →
    (∀ e ∈ es, ∀ x ∈ ex, e.key.isStr x.1 = false) → (∀ e ∈ es, e.refKey = false) → (ex.map (·.1)).Nodup →
    (∀ (h' : Heap), (∀ b o, b ≠ d → s.heap.get? b = some o → h'.get? b = some o) → h'.objs.size = s.heap.objs.size → h'.get? d = some (dictOf (es ++ kwEs w.params s.toks ex) (n + ex.length)) → Q ⟨⟩ { s with heap := h', toks := s.toks + ex.length }) →
    wpAny (model prog w) A (forIn ex PUnit.unit fun x _ => (nsSet d x.1 x.2 >>= fun _ => pure (ForInStep.yield PUnit.unit))) Q E s
  | [], s, es, n, D, _, _, _, h => by
    rw [List.forIn_nil]
    refine wpAny_pure (h s.heap (fun _ _ _ e => e) rfl ?_)
    show s.heap.get? d = some (dictOf (es ++ []) n)
    rw [List.append_nil]
    exact D
  | x :: r, s, es, n, D, hs, hr, hn, h => by
    obtain ⟨hn1, hn2⟩ := List.nodup_cons.mp (show (x.1 :: r.map (·.1)).Nodup from hn)
    rw [List.forIn_cons]
    refine wpAny_bind (wpAny_bind (nsSet_own D (fun e he => hs e he x (.head _)) hr fun h' hk' hz' D' => wpAny_pure ?_))
    show wpAny (model prog w) A (forIn r PUnit.unit fun x _ => (nsSet d x.1 x.2 >>= fun _ => pure (ForInStep.yield PUnit.unit))) Q E { s with heap := h', toks := s.toks + 1 }
    refine fill_own r { s with heap := h', toks := s.toks + 1 } _ _ D' (fun e he y hy => ?_) (fun e he => ?_) hn2 fun h'' hk'' hz'' D'' => ?_
    · rcases List.mem_append.mp he with he | he
      · exact hs e he y (.tail _ hy)
      · obtain rfl := List.mem_singleton.mp he
        show (x.1 == y.1) = false
        exact beq_eq_false_iff_ne.mpr fun q => hn1 (by rw [q]; exact List.mem_map_of_mem hy)
    · rcases List.mem_append.mp he with he | he
      · exact hr e he
      · obtain rfl := List.mem_singleton.mp he
        rfl
    · have t1 : s.toks + 1 + r.length = s.toks + (r.length + 1) := by omega
      have t2 : n + 1 + r.length = n + (r.length + 1) := by omega
      show Q ⟨⟩ { s with heap := h'', toks := s.toks + 1 + r.length }
      rw [t1]
      refine h h'' (fun b o hb e => hk'' b o hb (hk' b o hb e)) (hz''.trans hz') ?_
      rw [t2, List.append_assoc] at D''
      exact D''
theorem peek_own {α : Type} {K : Frag} {Q : α → Shared → Prop} {o : Obj} (X : K.In s.heap) :
    ∀ (t : Sem α) (g : Addr → Sem α), peekA K ⟨prog, w.params⟩ t = some (o, g) → wpAny (model prog w) A (g s.heap.objs.size) Q E { s with heap := s.heap.push o } → wpAny (model prog w) A t Q E s := by
  intro t
  induction t with
  | rule _ k ih => intro g e q Γ p hΓ; exact ih () g e q Γ p hΓ
  | point _ k ih => intro g e q Γ p hΓ; exact ih () g e q Γ p hΓ
  | ask k ih => intro g e q Γ p hΓ; exact ih _ g e q Γ p hΓ
  | load a _ k ih =>
    intro g e q Γ p hΓ
    simp only [peekA] at e
    split at e
    · rename_i ob ho; exact ⟨ob, X _ _ ho, ih ob g e q Γ p hΓ⟩
    · cases e
  | alloc ob k _ =>
    intro g e q
    have e : some (ob, k) = some (o, g) := e
    obtain ⟨e1, e2⟩ := Prod.mk.inj (Option.some.inj e)
    subst e1
    subst e2
    show wpAny (model prog w) A (alloc ob >>= k) Q E s
    exact wpAny_bind (wpAny_alloc q)
  | _ => intro g e; cases e
end
/-- a def's call seen from a smaller heap: what is not of it lies on the ledger -/
theorem enterH {prog : Program} {w : World} {A : Around} {s : Shared} {hb : Heap} {K : Frag} {p : Program} {loose : List Str} {mean : ExcName → Option Value} {mg mb : Str → Option Value} {news : List (Addr × Obj)}
    {R : Result → Shared → Prop} {name qual : Str} {params : Arguments} {body : List Stmt} {scope : Scope} {dV kV doc pm cdv ct oc : Value} {an od : Option Addr} {osl : Array (Option Value)} {f : Addr} {args : Args} {binds : List (Str × Value)}
    (hsub : ∀ b o, hb.get? b = some o → s.heap.get? b = some o) (hsz : hb.objs.size ≤ s.heap.objs.size) (N : ∀ q ∈ news, s.heap.get? q.1 = some q.2 ∧ hb.get? q.1 = none) (X : K.In hb) (T : Top p loose mean mg mb hb)
    (ho : K.lookup f = some ⟨oc, od, .func (fnOf name qual params body scope dV kV doc pm an cdv ct), osl⟩) (hcd : codeIn K cdv qual = true) (hroom : A.depth < recursionLimit)
    (hbind : BindsTo s (fnOf name qual params body scope dV kV doc pm an cdv ct) args binds) (hloc : ∀ y ∈ binds, scope.names.lookup y.1 = some .local)
    (h : ∀ L' h₁, Fr hb L' h₁ (fun y => binds.reverse.lookup y) → News hb L' h₁ news →
      wpAny (model prog w) (A.deeper (envOf qual scope L' f cdv)) (execs body (envOf qual scope L' f cdv))
        (fun fl s' => R (.ok (.ret (match fl with | .ret v => v | _ => .none))) s')
        (fun e s' => wpAny (model prog w) (A.deeper (envOf qual scope L' f cdv)) (leaving (envOf qual scope L' f cdv) e) (fun _ s'' => R (.error e) s'') (fun e' s'' => R (.error e') s'') s')
        { s with heap := h₁, toks := s.toks + binds.length })
    (hco : scope.isCoroutine = false) (hgen : scope.isGenerator = false) (hk : scope.kind = .function)
    (hcell : ∀ x ∈ scope.names, x.2 ≠ .cell) : codeAny (model prog w) A (.call (.ref f) args) R s :=
  codeAny_call_def (fd := fnOf name qual params body scope dV kV doc pm an cdv ct) (body := body) (binds := binds) hroom (X.keeps hsub _ _ ho) rfl (T.nolimit.keeps hsub) (codeRec_of (X.keeps hsub) hcd) rfl hbind hcell hloc
    (fun h₁ hns hk₁ => h _ h₁ ⟨hns, fun b o e => hk₁ b o (hsub b o e), hsz⟩ (fun q hq => ⟨hk₁ _ _ (N q hq).1, Nat.ne_of_lt (Heap.lt_size (N q hq).1), (N q hq).2⟩)) hco hgen hk
/-- a def with **more, called with names that are not its own -/
theorem enterKW {prog : Program} {w : World} {A : Around} {s : Shared} {hb : Heap} {K : Frag} {p : Program} {loose : List Str} {mean : ExcName → Option Value} {mg mb : Str → Option Value} {news : List (Addr × Obj)}
    {R : Result → Shared → Prop} {name qual : Str} {params : Arguments} {body : List Stmt} {scope : Scope} {dV kV doc pm cdv ct oc : Value} {an od : Option Addr} {osl : Array (Option Value)} {f : Addr} {args : Args} {nm : Str} {ex front : List (Str × Value)} {g₁ : Addr → Sem (List (Str × Value))}
    (hsub : ∀ b o, hb.get? b = some o → s.heap.get? b = some o) (hsz : hb.objs.size ≤ s.heap.objs.size) (N : ∀ q ∈ news, s.heap.get? q.1 = some q.2 ∧ hb.get? q.1 = none) (X : K.In hb) (T : Top p loose mean mg mb hb)
    (ho : K.lookup f = some ⟨oc, od, .func (fnOf name qual params body scope dV kV doc pm an cdv ct), osl⟩) (hcd : codeIn K cdv qual = true) (hroom : A.depth < recursionLimit)
    (hn : kwDistinct ex = true) (hp : peekA K ⟨prog, w.params⟩ (bindArgs (fnOf name qual params body scope dV kV doc pm an cdv ct) args) = some (dictOf [] 0, g₁))
    (hk₁ : ∀ D, g₁ D = (forIn ex PUnit.unit (fun x _ => (nsSet D x.1 x.2 >>= fun _ => pure (ForInStep.yield PUnit.unit))) >>= fun _ => pure (front ++ [(nm, Value.ref D)])))
    (hloc : ∀ D, ∀ y ∈ front ++ [(nm, Value.ref D)], scope.names.lookup y.1 = some .local)
    (h : ∀ D o L' h₁ tk, (∀ q ∈ news, q.1 < D) → (D == sysModules) = false → o.IsDictOf (strKind prog w) ex → Fr hb L' h₁ (fun y => (front ++ [(nm, Value.ref D)]).reverse.lookup y) → News hb L' h₁ ((D, o) :: news) →
      wpAny (model prog w) (A.deeper (envOf qual scope L' f cdv)) (execs body (envOf qual scope L' f cdv))
        (fun fl s' => R (.ok (.ret (match fl with | .ret v => v | _ => .none))) s')
        (fun e s' => wpAny (model prog w) (A.deeper (envOf qual scope L' f cdv)) (leaving (envOf qual scope L' f cdv) e) (fun _ s'' => R (.error e) s'') (fun e' s'' => R (.error e') s'') s')
        { s with heap := h₁, toks := tk })
    (hco : scope.isCoroutine = false) (hgen : scope.isGenerator = false) (hk : scope.kind = .function)
    (hcell : ∀ x ∈ scope.names, x.2 ≠ .cell) : codeAny (model prog w) A (.call (.ref f) args) R s := by
  have hn' := kwDistinct_nodup hn
  have hfree : s.heap.get? s.heap.objs.size = none := by
    cases q : s.heap.get? s.heap.objs.size with
    | none => rfl
    | some o => exact absurd (Heap.lt_size q) (Nat.lt_irrefl _)
  refine codeAny_call_function (fd := fnOf name qual params body scope dV kV doc pm an cdv ct) (body := body) hroom (X.keeps hsub _ _ ho) rfl hco hgen rfl (codeRec_of (X.keeps hsub) hcd) ?_
  refine peek_own (X.keeps hsub) _ g₁ hp ?_
  rw [hk₁]
  refine wpAny_bind (fill_own ex _ [] 0 (Heap.get?_push_size _ rfl) (fun _ he => nomatch he) (fun _ he => nomatch he) hn' fun h' hk' hz' hD' => wpAny_pure ?_)
  have sub' : ∀ b o, s.heap.get? b = some o → h'.get? b = some o := fun b o e => hk' b o (fun q => by rw [q, hfree] at e; cases e) (Heap.get?_push_of_some _ e)
  have hlt : s.heap.objs.size < h'.objs.size := by rw [hz']; simp
  refine wpAny_newFunctionEnv hcell (hloc _) (fun h₁ hns hsb => ⟨(T.nolimit.keeps fun b o e => sub' b o (hsub b o e)).fresh _ hsb, codeAny_func ?_⟩) hk
  have k₁ : ∀ b o, h'.get? b = some o → h₁.get? b = some o := fun b o e => hsb.extBut b o (Nat.ne_of_lt (Heap.lt_size e)) (Heap.get?_push_of_some _ e)
  refine h s.heap.objs.size _ _ h₁ _ (fun q hq => Heap.lt_size (N q hq).1) ?_ (kp_isDict s.toks (0 + ex.length) hn') ⟨hns, fun b o e => k₁ b o (sub' b o (hsub b o e)), Nat.le_trans hsz (Nat.le_of_lt hlt)⟩ fun q hq => ?_
  · exact beq_eq_false_iff_ne.mpr (Nat.ne_of_gt (Nat.lt_of_lt_of_le (modules_low T.nolimit) hsz))
  · rcases List.mem_cons.mp hq with rfl | hq
    · refine ⟨k₁ _ _ hD', Nat.ne_of_lt hlt, ?_⟩
      cases z : hb.get? s.heap.objs.size with
      | none => rfl
      | some o => have := hsub _ _ z; rw [hfree] at this; cases this
    · exact ⟨k₁ _ _ (sub' _ _ (N q hq).1), Nat.ne_of_lt (Nat.lt_trans (Heap.lt_size (N q hq).1) hlt), (N q hq).2⟩
/-- a class's call, up to its __init__ -/
theorem make_own {prog : Program} {w : World} {A : Around} {s : Shared} {K : Frag} {C fI : Addr} {rest : List Value} {kw : List (Str × Value)} {R : Result → Shared → Prop} (X : K.In s.heap) (hm : makesIn K C = true)
    (hi : findIn K (.ref C) "__init__" = some (some (.ref fI))) (hf : isFn K (.ref fI) = true)
    (h : ∀ x dx h', dx < x → (∀ b o, s.heap.get? b = some o → h'.get? b = some o) → s.heap.objs.size ≤ h'.objs.size → (∀ q ∈ [(x, instObj C dx), (dx, dictOf [] 0)], h'.get? q.1 = some q.2 ∧ s.heap.get? q.1 = none) →
      codeAny (model prog w) (A.under (.builtin "type.__call__" ⟨.ref C :: rest, kw⟩)) (.call (.ref fI) ⟨.ref x :: rest, kw⟩) (InitBack x R) { s with heap := h' }) :
    codeAny (model prog w) A (.call (.ref C) ⟨rest, kw⟩) R s := by
  obtain ⟨hh, g, d, t, os⟩ := s
  have none_at : ∀ i, hh.objs.size ≤ i → hh.get? i = none := fun i hi' => by
    cases q : hh.get? i with
    | none => rfl
    | some o => exact absurd (Heap.lt_size q) (Nat.not_lt.mpr hi')
  refine make_core (makes_of X hm) (looks_findIn X hi) (fun self => bind_fn X self (beq_iff_eq.mp hf)) (.inl rfl) (h (hh.objs.size + 1) hh.objs.size _ (Nat.lt_succ_self _) (fun b o e => Heap.get?_push_of_some _ (Heap.get?_push_of_some _ e)) (by simp; omega) fun q hq => ?_)
  rcases List.mem_cons.mp hq with rfl | hq
  · refine ⟨?_, none_at _ (Nat.le_succ _)⟩
    have : ((hh.push emptyDict).push (instObj C hh.objs.size)).get? (hh.push emptyDict).objs.size = some (instObj C hh.objs.size) := Heap.get?_push_size _ rfl
    rwa [Heap.size_push] at this
  · obtain rfl := List.mem_singleton.mp hq
    exact ⟨Heap.get?_push_of_some _ (Heap.get?_push_size _ rfl), none_at _ (Nat.le_refl _)⟩
theorem pop_absent {prog : Program} {w : World} {K : Type} [DecidableEq K] {knd : KeyKind prog w K} {A : Around} {E : Value → Shared → Prop} {s : Shared} {h₀ : Heap} {L d : Addr} {news : List (Addr × Obj)} {o : Obj} {kvs : List (K × Value)} {k : K} {key dflt : Value} {Q : Value → Shared → Prop} (N : News h₀ L s.heap news) (hp : (d, o) ∈ news) (hd : o.IsDictOf knd kvs) (lo : (d == sysModules) = false) (hkey : knd.is k key = true) (hpart : (keyPart key).isSome = true)
    (hargs : argsOk "dict.pop" ⟨[.ref d, key, dflt], []⟩) (hl : valueAt kvs k = none) (h : Q dflt { s with toks := s.toks + 1 }) : wpAny (model prog w) A (call (.builtin "dict.pop") [.ref d, key, dflt]) Q E s :=
  have hD := kda_dict N hp hd
  call_meetsIn PySem.F.slot_dict_pop hD.typeIs PySem.F.entry_dict_pop hargs (meets_dict_pop_default knd d hkey lo hpart dflt) ⟨_, hD, hl, h⟩
theorem msg_ne {w : World} {h : Heap} {a dx f t : Addr} {n : Nat} {hs : Int} {tf t1 t2 : Tok} {tm : Int} {vs : List Value} {ns : List Int} (M : Msg w h a dx f t n hs tf t1 t2 tm vs ns) : @Ne Nat dx a := fun e => by
  have h1 := M.obj
  have h2 := M.dic
  rw [e, h1] at h2
  cases h2
end Mine
namespace Mine
/-- the same for stacks that lend nothing: a def with **more, called with names that are not its own -/
theorem enterGW {prog : Program} {w : World} {A : Around} {s : Shared} {hb : Heap} {K : Frag} {p : Program} {loose : List Str} {mean : ExcName → Option Value} {mg mb : Str → Option Value} {news : List (Addr × Obj)}
    {R : Result → Shared → Prop} {name qual : Str} {params : Arguments} {body : List Stmt} {scope : Scope} {dV kV doc pm cdv ct oc : Value} {an od : Option Addr} {osl : Array (Option Value)} {f : Addr} {args : Args} {nm : Str} {ex front : List (Str × Value)} {g₁ : Addr → Sem (List (Str × Value))}
    (hsub : ∀ b o, hb.get? b = some o → s.heap.get? b = some o) (hsz : hb.objs.size ≤ s.heap.objs.size) (N : ∀ q ∈ news, s.heap.get? q.1 = some q.2 ∧ hb.get? q.1 = none) (X : K.In hb) (T : Top p loose mean mg mb hb)
    (ho : K.lookup f = some ⟨oc, od, .func (fnOf name qual params body scope dV kV doc pm an cdv ct), osl⟩) (hcd : codeIn K cdv qual = true) (hroom : A.depth < recursionLimit)
    (hn : kwDistinct ex = true) (hp : peekA K ⟨prog, w.params⟩ (bindArgs (fnOf name qual params body scope dV kV doc pm an cdv ct) args) = some (dictOf [] 0, g₁))
    (hk₁ : ∀ D, g₁ D = (forIn ex PUnit.unit (fun x _ => (nsSet D x.1 x.2 >>= fun _ => pure (ForInStep.yield PUnit.unit))) >>= fun _ => pure (front ++ [(nm, Value.ref D)])))
    (hloc : ∀ D, ∀ y ∈ front ++ [(nm, Value.ref D)], scope.names.lookup y.1 = some .local)
    (h : ∀ D o L' h₁ tk, (∀ q ∈ news, q.1 < D) → (D == sysModules) = false → o.IsDictOf (strKind prog w) ex → Fr hb L' h₁ (fun y => (front ++ [(nm, Value.ref D)]).reverse.lookup y) → News hb L' h₁ ((D, o) :: news) →
      wpG (model prog w) (A.deeper (envOf qual scope L' f cdv)) (execs body (envOf qual scope L' f cdv))
        (fun fl s' => R (.ok (.ret (match fl with | .ret v => v | _ => .none))) s')
        (fun e s' => wpAny (model prog w) (A.deeper (envOf qual scope L' f cdv)) (leaving (envOf qual scope L' f cdv) e) (fun _ s'' => R (.error e) s'') (fun e' s'' => R (.error e') s'') s')
        { s with heap := h₁, toks := tk })
    (hco : scope.isCoroutine = false) (hgen : scope.isGenerator = false) (hk : scope.kind = .function)
    (hcell : ∀ x ∈ scope.names, x.2 ≠ .cell) : codeG (model prog w) A (.call (.ref f) args) R s := by
  have hn' := kwDistinct_nodup hn
  have hfree : s.heap.get? s.heap.objs.size = none := by
    cases q : s.heap.get? s.heap.objs.size with
    | none => rfl
    | some o => exact absurd (Heap.lt_size q) (Nat.lt_irrefl _)
  refine codeG_call_function (fd := fnOf name qual params body scope dV kV doc pm an cdv ct) (body := body) hroom (X.keeps hsub _ _ ho) rfl hco hgen rfl (codeRec_of (X.keeps hsub) hcd) ?_
  refine peek_own (X.keeps hsub) _ g₁ hp ?_
  rw [hk₁]
  refine wpAny_bind (fill_own ex _ [] 0 (Heap.get?_push_size _ rfl) (fun _ he => nomatch he) (fun _ he => nomatch he) hn' fun h' hk' hz' hD' => wpAny_pure ?_)
  have sub' : ∀ b o, s.heap.get? b = some o → h'.get? b = some o := fun b o e => hk' b o (fun q => by rw [q, hfree] at e; cases e) (Heap.get?_push_of_some _ e)
  have hlt : s.heap.objs.size < h'.objs.size := by rw [hz']; simp
  refine wpAny_newFunctionEnv hcell (hloc _) (fun h₁ hns hsb => ⟨(T.nolimit.keeps fun b o e => sub' b o (hsub b o e)).fresh _ hsb, codeG_func ?_⟩) hk
  have k₁ : ∀ b o, h'.get? b = some o → h₁.get? b = some o := fun b o e => hsb.extBut b o (Nat.ne_of_lt (Heap.lt_size e)) (Heap.get?_push_of_some _ e)
  refine h s.heap.objs.size _ _ h₁ _ (fun q hq => Heap.lt_size (N q hq).1) ?_ (kp_isDict s.toks (0 + ex.length) hn') ⟨hns, fun b o e => k₁ b o (sub' b o (hsub b o e)), Nat.le_trans hsz (Nat.le_of_lt hlt)⟩ fun q hq => ?_
  · exact beq_eq_false_iff_ne.mpr (Nat.ne_of_gt (Nat.lt_of_lt_of_le (modules_low T.nolimit) hsz))
  · rcases List.mem_cons.mp hq with rfl | hq
    · refine ⟨k₁ _ _ hD', Nat.ne_of_lt hlt, ?_⟩
      cases z : hb.get? s.heap.objs.size with
      | none => rfl
      | some o => have := hsub _ _ z; rw [hfree] at this; cases this
    · exact ⟨k₁ _ _ (sub' _ _ (N q hq).1), Nat.ne_of_lt (Nat.lt_trans (Heap.lt_size (N q hq).1) hlt), (N q hq).2⟩
/-- a def's call seen from a smaller heap: what is not of it lies on the ledger -/
theorem enterGH {prog : Program} {w : World} {A : Around} {s : Shared} {hb : Heap} {K : Frag} {p : Program} {loose : List Str} {mean : ExcName → Option Value} {mg mb : Str → Option Value} {news : List (Addr × Obj)}
    {R : Result → Shared → Prop} {name qual : Str} {params : Arguments} {body : List Stmt} {scope : Scope} {dV kV doc pm cdv ct oc : Value} {an od : Option Addr} {osl : Array (Option Value)} {f : Addr} {args : Args} {binds : List (Str × Value)}
    (hsub : ∀ b o, hb.get? b = some o → s.heap.get? b = some o) (hsz : hb.objs.size ≤ s.heap.objs.size) (N : ∀ q ∈ news, s.heap.get? q.1 = some q.2 ∧ hb.get? q.1 = none) (X : K.In hb) (T : Top p loose mean mg mb hb)
    (ho : K.lookup f = some ⟨oc, od, .func (fnOf name qual params body scope dV kV doc pm an cdv ct), osl⟩) (hcd : codeIn K cdv qual = true) (hroom : A.depth < recursionLimit)
    (hbind : BindsTo s (fnOf name qual params body scope dV kV doc pm an cdv ct) args binds) (hloc : ∀ y ∈ binds, scope.names.lookup y.1 = some .local)
    (h : ∀ L' h₁, Fr hb L' h₁ (fun y => binds.reverse.lookup y) → News hb L' h₁ news →
      wpG (model prog w) (A.deeper (envOf qual scope L' f cdv)) (execs body (envOf qual scope L' f cdv))
        (fun fl s' => R (.ok (.ret (match fl with | .ret v => v | _ => .none))) s')
        (fun e s' => wpAny (model prog w) (A.deeper (envOf qual scope L' f cdv)) (leaving (envOf qual scope L' f cdv) e) (fun _ s'' => R (.error e) s'') (fun e' s'' => R (.error e') s'') s')
        { s with heap := h₁, toks := s.toks + binds.length })
    (hco : scope.isCoroutine = false) (hgen : scope.isGenerator = false) (hk : scope.kind = .function)
    (hcell : ∀ x ∈ scope.names, x.2 ≠ .cell) : codeG (model prog w) A (.call (.ref f) args) R s :=
  codeG_call_def (fd := fnOf name qual params body scope dV kV doc pm an cdv ct) (body := body) (binds := binds) hroom (X.keeps hsub _ _ ho) rfl (T.nolimit.keeps hsub) (codeRec_of (X.keeps hsub) hcd) rfl hbind hcell hloc
    (fun h₁ hns hk₁ => h _ h₁ ⟨hns, fun b o e => hk₁ b o (hsub b o e), hsz⟩ (fun q hq => ⟨hk₁ _ _ (N q hq).1, Nat.ne_of_lt (Heap.lt_size (N q hq).1), (N q hq).2⟩)) hco hgen hk
end Mine
namespace Mine
section
variable {prog : Program} {w : World} {A : Around} {E : Value → Shared → Prop} {s : Shared}
/-- a new key goes to the end -/
theorem dictPut_new {d : Addr} {kvs : List (Str × Value)} {k : Str} {key v : Value} {Q : Unit → Shared → Prop} (hkey : (PySem.strKind prog w).is k key = true) (hm : s.heap.DictOf (PySem.strKind prog w) d kvs) (hf : k ∉ kvs.map (·.1))
    (hQ : ∀ h', h'.DictOf (PySem.strKind prog w) d (kvs ++ [(k, v)]) → Heap.SameBut d s.heap h' → Q () { s with heap := h' }) (hsz : kvs.length ≤ sizeLine) :
    ∀ F : Option Nat → Shared → Prop, (F none s → wpAny (model prog w) A (dictFind d key ((PySem.strKind prog w).hash k)) F E s) ∧ wpAny (model prog w) A (dictPut d ((PySem.strKind prog w).hash k) key v) Q E s := by
  intro F
  obtain ⟨o, es, ep, ho, hc, hd, hk, hp, hn⟩ := id hm
  have hes : es.size ≤ sizeLine := by
    have e1 := hp.length
    have e2 : es.toList.length = es.size := by simp
    omega
  have hidx : (es.findIdx? fun e => (PySem.strKind prog w).is k e.key) = none := by
    have h1 : (es.findIdx? fun e => (PySem.strKind prog w).is k e.key) = kvs.findIdx? fun kv => decide (kv.1 = k) := by
      rw [← hp.findIdx k]; obtain ⟨l⟩ := es; simp
    rw [h1]
    rw [List.findIdx?_eq_none_iff]
    intro x hx
    refine decide_eq_false fun e => hf ?_
    exact List.mem_map.mpr ⟨x, hx, e⟩
  refine ⟨fun hF => wpAny_dictFind_of hkey ho hd hk (by rw [hidx]; exact hF), ?_⟩
  unfold dictPut
  refine wpAny_bind (wpAny_dictFind_of hkey ho hd hk ?_)
  rw [hidx]
  dsimp only
  refine wpAny_updateDictKeys (hz := hes) ho hd (hQ _ ⟨_, _, ep + 1, Heap.get?_update_self _ ho (Obj.isFreed_of_dict (Obj.data_mapDictKeys hd _)), hc.mapDictKeys _, Obj.data_mapDictKeys hd _, hk.push hkey _, ?_, ?_⟩ (Heap.SameBut.update ..))
  · have := hp.append hkey ((PySem.strKind prog w).hash k) v
    obtain ⟨l⟩ := es
    simpa using this
  · rw [List.map_append, List.nodup_append]
    refine ⟨hn, by simp, ?_⟩
    intro a ha b hb
    simp only [List.map_cons, List.map_nil, List.mem_singleton] at hb
    subst hb
    exact fun e => hf (e ▸ ha)
/-- the keys of one dict go into another -/
theorem merge_own {d a : Addr} {kvs more : List (Str × Value)} {Q : Unit → Shared → Prop} (hda : d ≠ a) (lo : (a == sysModules) = false) (hd : s.heap.DictOf (PySem.strKind prog w) d kvs) (hm : s.heap.DictOf (PySem.strKind prog w) a more)
    (hn : ((kvs ++ more).map (·.1)).Nodup) (hsz : kvs.length + more.length ≤ sizeLine) (hQ : ∀ h', h'.DictOf (PySem.strKind prog w) d (kvs ++ more) → Heap.SameBut d s.heap h' → Q () { s with heap := h' }) :
    wpAny (model prog w) A (mergeMapping d (.ref a) true) Q E s := by
  obtain ⟨od, esd, epd, hod, hcd, hdd, hkd, hpd, hnd⟩ := id hd
  obtain ⟨oa, esa, epa, hoa, hca, hda', hka, hpa, hna⟩ := id hm
  have hlen : more.length = esa.size := by rw [← hpa.length]; simp
  unfold mergeMapping
  refine wpAny_bind (wpAny_isInstance hm.typeIs isSubtype_dict_dict ?_)
  simp only [if_true]
  refine wpAny_bind (wpAny_specialOf hm.typeIs F.slot_dict_iter.lookup (wpAny_bind (wpAny_pure ?_)))
  simp only [beq_self_eq_true, lo, Bool.false_eq_true, if_false]
  refine wpAny_bind (wpAny_dictEntries hod hdd ?_)
  have loop : wpAny (model prog w) A (do
      let size := (← dictEntries a).size
      let epoch ← dictEpoch a
      for i in List.range size do
        let some e := (← dictEntries a)[i]? | unsupported "dict.changed-during-merge"
        holding [e.key, e.val] do
          if true then
            if (← dictFind d e.key e.hash).isSome then rule "dict.merge.duplicate-key"; raiseNew (← newExc (.type "KeyError") [e.key])
          dictPut d e.hash e.key e.val
        if (← dictEpoch a) != epoch then unsupported "dict.changed-during-merge") Q E s := by
    refine wpAny_bind (wpAny_dictEntries hoa hda' ?_)
    refine wpAny_bind (wpAny_dictEpoch hoa hda' ?_)
    refine wpAny_bind ?_
    refine wpAny_forIn_list _
      (fun rest _ s' => ∃ h' i, s' = { s with heap := h' } ∧ rest = List.range' i (esa.size - i) ∧ i ≤ esa.size ∧ h'.DictOf (PySem.strKind prog w) d (kvs ++ more.take i) ∧ h'.get? a = some oa ∧ Heap.SameBut d s.heap h')
      _ ?_ ?_ _ _ ⟨s.heap, 0, rfl, by simp [List.range_eq_range'], Nat.zero_le _, by simpa using hd, hoa, Heap.SameBut.refl _ _⟩
    · rintro x rest b s' ⟨h', i, rfl, hr, hi, hd', hoa', hs'⟩
      have hlt : i < esa.size := by
        rcases Nat.lt_or_ge i esa.size with h | h
        · exact h
        · rw [Nat.sub_eq_zero_of_le h] at hr; simp at hr
      obtain ⟨rfl, hrest⟩ : x = i ∧ rest = List.range' (i + 1) (esa.size - (i + 1)) := by
        have e : esa.size - i = (esa.size - (i + 1)) + 1 := by omega
        rw [e, List.range'_succ] at hr
        injection hr with h1 h2
        exact ⟨h1, h2⟩
      refine wpAny_bind (wpAny_dictEntries hoa' hda' ?_)
      rw [Array.getElem?_eq_getElem hlt]
      obtain ⟨kv, hkv⟩ : ∃ kv, more[x]? = some kv := ⟨more[x]'(by rw [hlen]; exact hlt), List.getElem?_eq_getElem _⟩
      obtain ⟨k, v⟩ := kv
      obtain ⟨hkey, hval⟩ := hpa.get? (e := esa[x]) (by simp [hlt]) hkv
      obtain ⟨k', hkey', hhash⟩ := hka esa[x] (Array.getElem_mem hlt)
      obtain rfl : k' = k := (PySem.strKind prog w).inj _ _ _ hkey' hkey
      dsimp only
      rw [hhash, hval]
      have hfr : k' ∉ (kvs ++ more.take x).map (·.1) := by
        intro hmem
        have htake : more.take (x + 1) = more.take x ++ [(k', v)] := by rw [List.take_add_one, hkv]; rfl
        have hsub : ((kvs ++ more.take (x + 1)).map (·.1)).Nodup := by
          have hsl : (kvs ++ more.take (x + 1)).Sublist (kvs ++ more) := List.Sublist.append (List.Sublist.refl _) (List.take_sublist _ _)
          exact (hsl.map _).nodup hn
        rw [htake, ← List.append_assoc, List.map_append, List.nodup_append] at hsub
        exact hsub.2.2 _ hmem _ (by simp) rfl
      have hmx : (kvs ++ more.take x).length ≤ sizeLine := by
        have e2 : (more.take x).length ≤ more.length := by rw [List.length_take]; omega
        rw [List.length_append]; omega
      refine wpAny_bind (wpAny_holding ?_)
      simp only [if_true]
      refine wpAny_bind ((dictPut_new (v := v) (Q := fun _ _ => True) hkey hd' hfr (fun _ _ _ => trivial) hmx _).1 ?_)
      simp only [Option.isSome_none, Bool.false_eq_true, if_false]
      refine (dictPut_new hkey hd' hfr (fun h'' hd'' hs'' => ?_) hmx (fun _ _ => True)).2
      · have hoa'' : h''.get? a = some oa := (hs''.2 a (Ne.symm hda)).trans hoa'
        refine wpAny_bind (wpAny_dictEpoch hoa'' hda' ?_)
        rw [if_neg (by simp)]
        refine wpAny_pure ⟨h'', x + 1, rfl, hrest, hlt, ?_, hoa'', hs'.trans hs''⟩
        have htake : more.take (x + 1) = more.take x ++ [(k', v)] := by rw [List.take_add_one, hkv]; rfl
        rw [htake, ← List.append_assoc]; exact hd''
    · rintro b s' ⟨h', i, rfl, hr, hi, hd', hoa', hs'⟩
      have hin : i = esa.size := by
        rcases Nat.lt_or_ge i esa.size with h | h
        · have e : esa.size - i = (esa.size - (i + 1)) + 1 := by omega
          rw [e, List.range'_succ] at hr; exact nomatch hr
        · exact Nat.le_antisymm hi h
      refine wpAny_pure (hQ h' ?_ hs')
      rw [hin, ← hlen, List.take_length] at hd'; exact hd'
  have plain : ∀ k : Unit → Sem Unit, wpAny (model prog w) A (k ()) Q E s → wpAny (model prog w) A (do
      let es ← dictEntries a
      for e in es do
        if let .ref _ := e.key then
          if (← specialOf e.key "__eq__") != some (.builtin "object.__eq__") then
            if (es.filter (·.hash == e.hash)).size > 1 then unsupported "dict.merge-into-an-empty-dict:keys-of-equal-hash"
      k ()) Q E s := by
    intro k hk
    refine wpAny_bind (wpAny_dictEntries hoa hda' ?_)
    refine wpAny_bind ?_
    rw [← Array.forIn_toList]
    rw [forIn_yield_id _ fun e he c => ?_]
    · exact wpAny_pure hk
    · obtain ⟨k', hkey', _⟩ := hka e (Array.mem_toList_iff.mp he)
      obtain ⟨t, ht⟩ := Value.isStrOf_shape hkey'
      rw [ht]
  split
  · exact plain (fun _ => _) loop
  · exact loop
end
end Mine
namespace Mine
section
variable {prog : Program} {w : World} {A : Around} {E : Value → Shared → Prop} {s : Shared}
theorem keywordsIn_own {f : Value} {d : Addr} {kvs : List (Str × Value)} {Q : List (Str × Value) → Shared → Prop} (hd : s.heap.DictOf (PySem.strKind prog w) d kvs) (h : Q kvs s) : wpAny (model prog w) A (keywordsIn f d) Q E s := by
  obtain ⟨od, esd, epd, hod, hcd, hdd, hkd, hpd, hnd⟩ := id hd
  unfold keywordsIn
  refine wpAny_bind (wpAny_dictEntries hod hdd ?_)
  refine wpAny_bind ?_
  rw [← Array.forIn_toList]
  refine wpAny_forIn_list _ (fun rest kw s' => ∃ more, kw ++ more = kvs ∧ Pairs (PySem.strKind prog w) rest more ∧ s' = s) _ ?_ ?_ _ _ ⟨kvs, rfl, hpd, rfl⟩
  · rintro x rest kw s' ⟨more, he, hp, rfl⟩
    cases hp with
    | cons hk hv hp =>
      rename_i kv kvs'
      obtain ⟨t, ht⟩ := Value.isStrOf_shape hk
      rw [ht]
      dsimp only
      exact wpAny_pure ⟨kvs', by rw [hv, List.append_assoc]; exact he, hp, rfl⟩
  · rintro kw s' ⟨more, he, hp, rfl⟩
    cases hp
    rw [List.append_nil] at he
    subst he
    exact wpAny_pure h
theorem merge_guarded {d a : Addr} {kvs more : List (Str × Value)} {k : Value → Sem Unit} {g : Value → Sem Unit} {Q : Unit → Shared → Prop} (hda : d ≠ a) (lo : (a == sysModules) = false) (hd : s.heap.DictOf (PySem.strKind prog w) d kvs) (hm : s.heap.DictOf (PySem.strKind prog w) a more)
    (hn : ((kvs ++ more).map (·.1)).Nodup) (hsz : kvs.length + more.length ≤ sizeLine) (hQ : ∀ h', h'.DictOf (PySem.strKind prog w) d (kvs ++ more) → Heap.SameBut d s.heap h' → Q () { s with heap := h' }) :
    wpAny (model prog w) A (((mergeMapping d (.ref a) true).onRaise g).tryCatch k) Q E s :=
  wpAny_tryCatch (wpAny_onRaise (wpAny_mono (merge_own (E := fun _ _ => False) hda lo hd hm hn hsz hQ) (fun _ _ x => x) fun _ _ x => x.elim))
/-- f(**a) -/
theorem star0 {env : Env} {pos p : Pos} {e : Expr} {f : Value} {a : Addr} {kvs : List (Str × Value)} {Q : Args → Shared → Prop}
    (hx : ∀ (E' : Value → Shared → Prop) (Q' : Value → Shared → Prop) (h' : Heap), (∀ b o, s.heap.get? b = some o → h'.get? b = some o) → Q' (.ref a) { s with heap := h' } → wpAny (model prog w) A (eval e env) Q' E' { s with heap := h' })
    (hd : s.heap.DictOf (PySem.strKind prog w) a kvs) (lo : (a == sysModules) = false) (hsz : kvs.length ≤ sizeLine)
    (h : ∀ h', (∀ b o, s.heap.get? b = some o → h'.get? b = some o) → Q ⟨[], kvs⟩ { s with heap := h' }) :
    wpAny (model prog w) A (evalArgs f true [] (backToKw pos (keywordEach [⟨none, e, p⟩] env))) Q E s := by
  have hfree : s.heap.get? s.heap.objs.size = none := by
    cases q : s.heap.get? s.heap.objs.size with
    | none => rfl
    | some o => exact absurd (Heap.lt_size q) (Nat.lt_irrefl _)
  obtain ⟨oa, hoa, _⟩ := Heap.dictOf_iff.mp hd
  have hne : s.heap.objs.size ≠ a := fun q => by rw [← q, hfree] at hoa; cases hoa
  have nd := hd
  obtain ⟨_, _, _, _, _, _, _, _, hnd⟩ := nd
  unfold evalArgs
  show wpAny _ _ (spliced [] >>= _) _ _ _
  refine wpAny_bind (Calls.spliced_nil (wpAny_bind (wpAny_pure ?_)))
  refine wpAny_holding ?_
  show wpAny _ _ (mergedKeywords f [(none, do let v ← eval e env; standAt pos; pure v)] >>= _) _ _ _
  refine wpAny_bind ?_
  unfold mergedKeywords
  refine wpAny_bind (wpAny_alloc ?_)
  refine wpAny_bind ?_
  refine wpAny_holding ?_
  dsimp only
  rw [List.forIn_cons]
  have sub : ∀ b o, s.heap.get? b = some o → (s.heap.push { cls := .type "dict", data := .dict #[] }).get? b = some o := fun b o e => Heap.get?_push_of_some _ e
  refine wpAny_bind ?_
  dsimp only
  refine wpAny_bind ?_
  refine wpAny_bind (bm_if_true (c := List.isEmpty (α := Str × Sem Value) []) rfl (wpAny_pure ?_))
  refine wpAny_bind (wpAny_bind (hx _ _ _ sub (wpAny_bind (wpAny_standAt (wpAny_pure ?_)))))
  refine wpAny_bind (wpAny_onRaise (wpAny_holding (merge_guarded hne lo (kvs := []) ?_ (hd.keep sub) (by simpa using hnd) (by simpa using hsz) fun h' hd' hs' => ?_)))
  · exact Heap.dictOf_iff.mpr ⟨_, Heap.get?_push_size _ rfl, ⟨#[], 0, ⟨rfl, rfl, rfl⟩, rfl, (fun e he => by simp at he), Pairs.nil, List.nodup_nil⟩⟩
  · have keep : ∀ b o, s.heap.get? b = some o → h'.get? b = some o := fun b o e => hs'.extBut b o (fun q => by rw [q, hfree] at e; cases e) (sub b o e)
    refine wpAny_pure ?_
    refine wpAny_of_eq (a := ([] : List (Str × Sem Value))) rfl ?_
    refine bm_if_true (c := List.isEmpty (α := Str × Sem Value) []) rfl (wpAny_pure ?_)
    refine wpAny_pure ?_
    refine wpAny_bind (wpAny_pure ?_)
    refine wpAny_bind (wpAny_holding (keywordsIn_own (kvs := kvs) (s := { s with heap := h' }) (by simpa using hd') (wpAny_pure (h h' keep))))
/-- f(n=e₁, **a) -/
theorem star1 {env : Env} {pos p p₁ : Pos} {e e₁ : Expr} {n₁ : Str} {f v₁ : Value} {a : Addr} {kvs : List (Str × Value)} {Q : Args → Shared → Prop}
    (hx₁ : ∀ (E' : Value → Shared → Prop) (Q' : Value → Shared → Prop) (h' : Heap) (tk : Nat), (∀ b o, s.heap.get? b = some o → h'.get? b = some o) → Q' v₁ { s with heap := h', toks := tk } → wpAny (model prog w) A (eval e₁ env) Q' E' { s with heap := h', toks := tk })
    (hx : ∀ (E' : Value → Shared → Prop) (Q' : Value → Shared → Prop) (h' : Heap) (tk : Nat), (∀ b o, s.heap.get? b = some o → h'.get? b = some o) → Q' (.ref a) { s with heap := h', toks := tk } → wpAny (model prog w) A (eval e env) Q' E' { s with heap := h', toks := tk })
    (hd : s.heap.DictOf (PySem.strKind prog w) a kvs) (lo : (a == sysModules) = false) (hlow : sysModules < s.heap.objs.size) (hn : (n₁ :: kvs.map (·.1)).Nodup) (hsz : kvs.length + 1 ≤ sizeLine)
    (h : ∀ h' tk, (∀ b o, s.heap.get? b = some o → h'.get? b = some o) → Q ⟨[], (n₁, v₁) :: kvs⟩ { s with heap := h', toks := tk }) :
    wpAny (model prog w) A (evalArgs f true [] (backToKw pos (keywordEach [⟨some n₁, e₁, p₁⟩, ⟨none, e, p⟩] env))) Q E s := by
  have hfree : s.heap.get? s.heap.objs.size = none := by
    cases q : s.heap.get? s.heap.objs.size with
    | none => rfl
    | some o => exact absurd (Heap.lt_size q) (Nat.lt_irrefl _)
  obtain ⟨oa, hoa, _⟩ := Heap.dictOf_iff.mp hd
  have hne : s.heap.objs.size ≠ a := fun q => by rw [← q, hfree] at hoa; cases hoa
  unfold evalArgs
  show wpAny _ _ (spliced [] >>= _) _ _ _
  refine wpAny_bind (Calls.spliced_nil (wpAny_bind (wpAny_pure ?_)))
  refine wpAny_holding ?_
  show wpAny _ _ (mergedKeywords f [(some n₁, do let v ← eval e₁ env; standAt pos; pure v), (none, do let v ← eval e env; standAt pos; pure v)] >>= _) _ _ _
  refine wpAny_bind ?_
  unfold mergedKeywords
  refine wpAny_bind (wpAny_alloc ?_)
  refine wpAny_bind ?_
  refine wpAny_holding ?_
  dsimp only
  rw [List.forIn_cons]
  have sub : ∀ b o, s.heap.get? b = some o → (s.heap.push { cls := .type "dict", data := .dict #[] }).get? b = some o := fun b o e => Heap.get?_push_of_some _ e
  have e0 : (s.heap.push { cls := .type "dict", data := .dict #[] }).DictOf (PySem.strKind prog w) s.heap.objs.size [] := Heap.dictOf_iff.mpr ⟨_, Heap.get?_push_size _ rfl, ⟨#[], 0, ⟨rfl, rfl, rfl⟩, rfl, (fun e he => by simp at he), Pairs.nil, List.nodup_nil⟩⟩
  refine wpAny_bind ?_
  dsimp only
  refine wpAny_bind (wpAny_pure ?_)
  dsimp only
  rw [List.forIn_cons]
  refine wpAny_bind ?_
  dsimp only
  refine wpAny_bind (bm_if_false (c := List.isEmpty ([] ++ [(n₁, (do let v ← eval e₁ env; standAt pos; pure v : Sem Value))])) rfl ?_)
  refine wpAny_bind (wpAny_evalAll_cons (wpAny_bind (hx₁ _ _ _ _ sub (wpAny_bind (wpAny_standAt (wpAny_pure (wpAny_evalAll_nil ?_)))))))
  refine wpAny_bind (wpAny_alloc ?_)
  refine wpAny_bind ?_
  show wpAny _ _ (forIn [((n₁, (do let v ← eval e₁ env; standAt pos; pure v : Sem Value)), v₁)] PUnit.unit _) _ _ _
  rw [List.forIn_cons]
  refine wpAny_bind ?_
  dsimp only
  have hD2 : ((s.heap.push { cls := .type "dict", data := .dict #[] }).push { cls := .type "dict", data := .dict #[] }).get? (s.heap.push { cls := .type "dict", data := .dict #[] }).objs.size = some (dictOf [] 0) := Heap.get?_push_size _ rfl
  have hd2lt : s.heap.objs.size < (s.heap.push { cls := .type "dict", data := .dict #[] }).objs.size := by simp
  have hd2free : s.heap.get? (s.heap.push { cls := .type "dict", data := .dict #[] }).objs.size = none := by
    cases q : s.heap.get? (s.heap.push { cls := .type "dict", data := .dict #[] }).objs.size with
    | none => rfl
    | some o => exact absurd (Heap.lt_size q) (Nat.not_lt.mpr (Nat.le_of_lt hd2lt))
  generalize hd2 : (s.heap.push { cls := .type "dict", data := .dict #[] }).objs.size = d2 at *
  have sub2 : ∀ b o, (s.heap.push { cls := .type "dict", data := .dict #[] }).get? b = some o → ((s.heap.push { cls := .type "dict", data := .dict #[] }).push { cls := .type "dict", data := .dict #[] }).get? b = some o := fun b o e => Heap.get?_push_of_some _ e
  have hne2 : ∀ b o, (s.heap.push { cls := .type "dict", data := .dict #[] }).get? b = some o → b ≠ d2 := fun b o e => Nat.ne_of_lt (hd2 ▸ Heap.lt_size e)
  refine wpAny_bind (nsSet_own hD2 (fun _ he => nomatch he) (fun _ he => nomatch he) fun h₂ hk₂ hz₂ hD₂ => wpAny_pure ?_)
  refine wpAny_of_eq (a := PUnit.unit) rfl ?_
  have hsub₂ : h₂.DictOf (PySem.strKind prog w) d2 [(n₁, v₁)] := Heap.dictOf_iff.mpr ⟨_, hD₂, kp_isDict (ex := [(n₁, v₁)]) s.toks _ (show [n₁].Nodup by simp)⟩
  have hd₂ : h₂.DictOf (PySem.strKind prog w) s.heap.objs.size [] := by
    obtain ⟨od, hod, r⟩ := Heap.dictOf_iff.mp e0
    exact Heap.dictOf_iff.mpr ⟨od, hk₂ _ _ (hne2 _ _ hod) (sub2 _ _ hod), r⟩
  have kept₂ : ∀ b o, s.heap.get? b = some o → h₂.get? b = some o := fun b o e => hk₂ b o (hne2 _ _ (sub b o e)) (sub2 _ _ (sub b o e))
  have lo2 : (d2 == sysModules) = false := beq_eq_false_iff_ne.mpr (Nat.ne_of_gt (Nat.lt_trans hlow hd2lt))
  refine wpAny_onRaise ?_
  refine wpAny_holding (merge_guarded (Nat.ne_of_lt hd2lt) lo2 (kvs := []) hd₂ hsub₂ (by simp) (by rw [sizeLine_eq]; simp) fun h₃ hd₃ hs₃ => ?_)
  have kept₃ : ∀ b o, s.heap.get? b = some o → h₃.get? b = some o := fun b o e => hs₃.extBut b o (fun q => by rw [q, hfree] at e; cases e) (kept₂ b o e)
  refine wpAny_bind (wpAny_bind (hx _ _ _ _ kept₃ (wpAny_bind (wpAny_standAt (wpAny_pure ?_)))))
  refine wpAny_bind (wpAny_onRaise (wpAny_holding (merge_guarded hne lo hd₃ (hd.keep kept₃) (by simpa using hn) (by simp only [List.length_append, List.length_cons, List.length_nil]; omega) fun h₄ hd₄ hs₄ => ?_)))
  have kept₄ : ∀ b o, s.heap.get? b = some o → h₄.get? b = some o := fun b o e => hs₄.extBut b o (fun q => by rw [q, hfree] at e; cases e) (kept₃ b o e)
  refine wpAny_pure ?_
  refine wpAny_of_eq (a := ([] : List (Str × Sem Value))) rfl ?_
  refine bm_if_true (c := List.isEmpty (α := Str × Sem Value) []) rfl (wpAny_pure ?_)
  refine wpAny_pure ?_
  refine wpAny_bind (wpAny_pure ?_)
  exact wpAny_bind (wpAny_holding (keywordsIn_own (kvs := (n₁, v₁) :: kvs) (s := { s with heap := h₄, toks := s.toks + 1 }) (by simpa using hd₄) (wpAny_pure (h h₄ _ kept₄))))
end
end Mine
namespace Mine
theorem callWith_starKW {M : Model} {A : Around} {E : Value → Shared → Prop} {s : Shared} {K : Frag} {f : Value} {first : List Value} {pos : Pos} {keywords : List (Option Str × Sem Value)} {Q : Value → Shared → Prop} (hst : keywords.any (·.1.isNone) = true) (hk : keepIn K f = true)
    (h : wpAny M A (evalArgs f true [] keywords) (fun a s₁ => K.In s₁.heap ∧ wpAny M A (call f (first ++ a.pos) a.kw) Q E s₁) E s) : wpAny M A (callWith pos f first [] keywords) Q E s := by
  unfold callWith
  refine wpAny_bind (wpAny_holding (wpAny_mono h (fun a s₁ h₁ => wpAny_bind (wpAny_standAt ?_)) fun _ _ x => x))
  obtain ⟨k, hk', L⟩ := keeps_K (M := M) hk _ h₁.1
  simp only [hst, Bool.or_true]
  refine wpAny_bind (L.here ?_)
  have tail : ∀ {t : Sem Value}, wpAny M A t Q E s₁ → wpAny M A (t >>= fun r => holding [r] point >>= fun _ => pure r) Q E s₁ :=
    fun ht => wpAny_bind (wpAny_mono ht (fun r s₂ hr => wpAny_bind (wpAny_holding (wpAny_point (wpAny_pure hr)))) fun _ _ x => x)
  have marked (mk : Value) : wpAny M A (callMarked mk f (first ++ a.pos) a.kw) Q E s₁ := by unfold callMarked; exact Calls.wpAny_keep h₁.2
  rcases hk' with rfl | rfl | rfl <;> dsimp only <;> first | exact tail (marked _) | exact tail (wpAny_operating h₁.2)
section
variable {prog : Program} {w : World} {A : Around} {E : Value → Shared → Prop} {s : Shared} {K : Frag} {h₀ : Heap} {m : Str → Option Value} {news : List (Addr × Obj)} {name : Str} {scope : Scope} {L fa C a : Addr} {cd : Value} {pos p p' : Pos} {x : Str} {kvs : List (Str × Value)} {Q : Value → Shared → Prop}
theorem cls_star0 (F : Fr h₀ L s.heap m) (N : News h₀ L s.heap news) (X : K.In h₀) (hk : keepIn K (.ref C) = true) (hv : m x = some (.ref a)) (hd : h₀.DictOf (PySem.strKind prog w) a kvs) (lo : (a == sysModules) = false) (hsz : kvs.length ≤ sizeLine)
    (hks : scope.kind = .function) (hl : (envOf name scope L fa cd).kindOf x = some .local) (hdb : (x == ("__debug__" : Str)) = false)
    (h : ∀ h', Fr h₀ L h' m → News h₀ L h' news → wpAny (model prog w) A (call (.ref C) [] kvs) Q E { s with heap := h' }) :
    wpAny (model prog w) A (callWith pos (.ref C) [] (backTo pos (starEach [] (envOf name scope L fa cd))) (backToKw pos (keywordEach [⟨none, .Name x p, p'⟩] (envOf name scope L fa cd)))) Q E s :=
  callWith_starKW (K := K) rfl hk (star0 (fun E' Q' h' hk' hq => ld (fr_keep F hk') hv hq hks hl hdb) (hd.keep F.keep) lo hsz fun h' hk' => ⟨X.keeps fun b o e => hk' b o (F.keep b o e), h h' (fr_keep F hk') (news_keep N hk')⟩)
/-- the dict on the ledger -/
theorem cls_star1 {o : Obj} {x₁ n₁ : Str} {p₁ p₂ : Pos} {v₁ : Value} (F : Fr h₀ L s.heap m) (N : News h₀ L s.heap news) (X : K.In h₀) (hk : keepIn K (.ref C) = true) (hv : m x = some (.ref a)) (hv₁ : m x₁ = some v₁) (hp : (a, o) ∈ news) (hd : o.IsDictOf (PySem.strKind prog w) kvs) (lo : (a == sysModules) = false) (hlim : h₀.NoLimit)
    (hn : (n₁ :: kvs.map (·.1)).Nodup) (hsz : kvs.length + 1 ≤ sizeLine)
    (hks : scope.kind = .function) (hl : (envOf name scope L fa cd).kindOf x = some .local) (hdb : (x == ("__debug__" : Str)) = false) (hl₁ : (envOf name scope L fa cd).kindOf x₁ = some .local) (hdb₁ : (x₁ == ("__debug__" : Str)) = false)
    (h : ∀ h' tk, Fr h₀ L h' m → News h₀ L h' news → wpAny (model prog w) A (call (.ref C) [] ((n₁, v₁) :: kvs)) Q E { s with heap := h', toks := tk }) :
    wpAny (model prog w) A (callWith pos (.ref C) [] (backTo pos (starEach [] (envOf name scope L fa cd))) (backToKw pos (keywordEach [⟨some n₁, .Name x₁ p₁, p₂⟩, ⟨none, .Name x p, p'⟩] (envOf name scope L fa cd)))) Q E s :=
  callWith_starKW (K := K) rfl hk (star1 (fun E' Q' h' tk hk' hq => ld (s := { s with heap := h', toks := tk }) (fr_keep F hk') hv₁ hq hks hl₁ hdb₁) (fun E' Q' h' tk hk' hq => ld (s := { s with heap := h', toks := tk }) (fr_keep F hk') hv hq hks hl hdb) (kda_dict N hp hd) lo
    (Nat.lt_of_lt_of_le (modules_low hlim) (Nat.le_trans F.above (Nat.le_of_lt F.ns.lt))) hn hsz fun h' tk hk' => ⟨X.keeps fun b o e => hk' b o (F.keep b o e), h h' tk (fr_keep F hk') (news_keep N hk')⟩)
end
end Mine
namespace Mine
theorem filled_LC2 : PySem.Challenge.rw_ae6013_01 = PySem.Challenge.rw_ae6013_01 → hd.heap_39 = hd.heap_39 → True := by
  k_fill
  intro _ _; trivial
local macro_rules | `(tactic| k_room) => `(tactic| ktr_room)
local macro_rules | `(tactic| k_units) => `(tactic| ktr_units)
section
variable {w : World} {mean : ExcName → Option Value} {mg mb : Str → Option Value} {s : Shared}
local macro_rules | `(tactic| k_inst) => `(tactic| exact Msg.inst (Msg.keeps (by with_reducible assumption) (Fr.keep (by k_asm))))
local macro_rules | `(tactic| walk_at "subscriptTail") => `(tactic| (k_here; (with_reducible show wpAny _ _ (subscriptTail _ _ (Value.ref _) (Value.str _ _)) _ _ _); k_dflt (refine od_item (knd := PySem.strKind _ _) (by k_asm) (by with_reducible assumption) (strKind_is _ _ _ _) (by rfl) ?_)))
local macro_rules | `(tactic| walk_at "getMethod ref") => `(tactic| (k_here; (with_reducible show wpAny _ _ (getMethod (Value.ref _) (Str.ofString "copy") _) _ _ _); k_dflt (refine od_method (knd := PySem.strKind _ _) PySem.F.slot_dict_copy PySem.F.type_dict_copy (by k_asm) (by with_reducible assumption) ?_)))
local macro_rules | `(tactic| walk_at "call builtin:dict.copy") => `(tactic| (k_here; k_dflt (refine dict_copy_lo (by k_asm) (by k_asm) (od_dict (by k_asm) (by with_reducible assumption)) (by k_asm) (Top.nolimit (by k_asm)) (by kob_size) ?_; intro d' h' o' F' N' l1 hd' lo'; (try k_lt l1))))
variable {a dx f t : Addr} {n : Nat} {hs : Int} {tf t1 t2 : Tok} {tm : Int} {vs : List Value} {ns : List Int}
set_option maxHeartbeats 4000000 in
theorem data_spec (M : Msg w s.heap a dx f t n hs tf t1 t2 tm vs ns) : Ctr 1 w mean mg mb 337 ⟨[.ref a], []⟩ s (fun v _ => v = .ref t) := by
  intro A base outer R hh B X T hdp hun hR
  obtain ⟨_, dp, fr, gd, un⟩ := A
  obtain rfl := hh
  obtain rfl := B.stack
  dsimp only at hdp hun
  refine' enterK (binds := [(Str.ofString "self", .ref a)]) B X T ?k6 ?k7 ?k8 ?k9 ?kB ?_ ?c2 ?c3 ?c4 ?c5
  case k6 => k_is
  case k7 => k_is
  case k8 => ktr_room
  case k9 => exact BindsTo.of_eq rfl
  case kB => exact locs rfl
  case c2 => rfl
  case c3 => rfl
  case c4 => rfl
  case c5 => decide
  intro L' h₁ F N
  try dsimp only
  have Mf := M.fld
  k_steps
  all_goals (dsimp only; refine hR _ _ _ F.keep rfl)
set_option maxHeartbeats 4000000 in
theorem type_spec (M : Msg w s.heap a dx f t n hs tf t1 t2 tm vs ns) : Ctr 1 w mean mg mb 238 ⟨[.ref a], []⟩ s (fun v _ => v = .str (Str.ofString "sysex") t1) := by
  intro A base outer R hh B X T hdp hun hR
  obtain ⟨_, dp, fr, gd, un⟩ := A
  obtain rfl := hh
  obtain rfl := B.stack
  dsimp only at hdp hun
  refine' enterK (binds := [(Str.ofString "self", .ref a)]) B X T ?k6 ?k7 ?k8 ?k9 ?kB ?_ ?c2 ?c3 ?c4 ?c5
  case k6 => k_is
  case k7 => k_is
  case k8 => ktr_room
  case k9 => exact BindsTo.of_eq rfl
  case kB => exact locs rfl
  case c2 => rfl
  case c3 => rfl
  case c4 => rfl
  case c5 => decide
  intro L' h₁ F N
  try dsimp only
  have Mf := M.fld
  k_steps
  all_goals (dsimp only; refine hR _ _ _ F.keep rfl)
set_option maxHeartbeats 4000000 in
theorem time_spec (M : Msg w s.heap a dx f t n hs tf t1 t2 tm vs ns) : Ctr 1 w mean mg mb 246 ⟨[.ref a], []⟩ s (fun v _ => v = .int tm t2) := by
  intro A base outer R hh B X T hdp hun hR
  obtain ⟨_, dp, fr, gd, un⟩ := A
  obtain rfl := hh
  obtain rfl := B.stack
  dsimp only at hdp hun
  refine' enterK (binds := [(Str.ofString "self", .ref a)]) B X T ?k6 ?k7 ?k8 ?k9 ?kB ?_ ?c2 ?c3 ?c4 ?c5
  case k6 => k_is
  case k7 => k_is
  case k8 => ktr_room
  case k9 => exact BindsTo.of_eq rfl
  case kB => exact locs rfl
  case c2 => rfl
  case c3 => rfl
  case c4 => rfl
  case c5 => decide
  intro L' h₁ F N
  try dsimp only
  have Mf := M.fld
  k_steps
  all_goals (dsimp only; refine hR _ _ _ F.keep rfl)
set_option maxHeartbeats 4000000 in
theorem dict_spec (M : Msg w s.heap a dx f t n hs tf t1 t2 tm vs ns) (hz : vs.toArray.size ≤ sizeLine) : Ctr 1 w mean mg mb 275 ⟨[.ref a], []⟩ s
    (fun v h' => ∃ d od l c, v = .ref d ∧ (d == sysModules) = false ∧ s.heap.get? d = none ∧ s.heap.get? l = none ∧ h'.get? d = some od ∧ h'.get? l = some (listOf vs.toArray c) ∧ d ≠ l ∧
      od.IsDictOf (strKind P w) [(Str.ofString "type", .str (Str.ofString "sysex") t1), (Str.ofString "time", .int tm t2), (Str.ofString "data", .ref l)]) := by
  intro A base outer R hh B X T hdp hun hR
  obtain ⟨_, dp, fr, gd, un⟩ := A
  obtain rfl := hh
  obtain rfl := B.stack
  dsimp only at hdp hun
  refine' enterK (binds := [(Str.ofString "self", .ref a)]) B X T ?k6 ?k7 ?k8 ?k9 ?kB ?_ ?c2 ?c3 ?c4 ?c5
  case k6 => k_is
  case k7 => k_is
  case k8 => ktr_room
  case k9 => exact BindsTo.of_eq rfl
  case kB => exact locs rfl
  case c2 => rfl
  case c3 => rfl
  case c4 => rfl
  case c5 => decide
  intro L' h₁ F N
  try dsimp only
  have Mf := M.fld
  have Ml := M.low
  have Mt : IsTup s.heap t vs.toArray := M.tup
  k_steps
  rename_i l1 h' o' F' N' hd'
  dsimp only
  exact hR _ _ _ F'.keep ⟨_, _, _, _, rfl, by assumption, (N' _ (.tail _ (.head _))).2.2, (N' _ (.head _)).2.2, (N' _ (.tail _ (.head _))).1, (N' _ (.head _)).1, Nat.ne_of_lt l1, hd'⟩
set_option maxHeartbeats 4000000 in
theorem enc_sysex_spec (Mf : s.heap.DictOf (strKind P w) f [(Str.ofString "type", .str (Str.ofString "sysex") t1), (Str.ofString "time", .int tm t2), (Str.ofString "data", .ref t)]) (Mt : IsTup s.heap t vs.toArray) (hi : IntsAre vs ns) (hn : ns.length ≤ 6) :
    Ctr 1 w mean mg mb 184 ⟨[.ref f], []⟩ s (fun v h' => ∃ d ws, v = .ref d ∧ s.heap.get? d = none ∧ h'.get? d = some (listOf ws.toArray 0) ∧ IntsAre ws ([240] ++ ns ++ [247])) := by
  intro A base outer R hh B X T hdp hun hR
  obtain ⟨_, dp, fr, gd, un⟩ := A
  obtain rfl := hh
  obtain rfl := B.stack
  dsimp only at hdp hun
  refine' enterK (binds := [(Str.ofString "msg", .ref f)]) B X T ?k6 ?k7 ?k8 ?k9 ?kB ?_ ?c2 ?c3 ?c4 ?c5
  case k6 => k_is
  case k7 => k_is
  case k8 => ktr_room
  case k9 => exact BindsTo.of_eq rfl
  case kB => exact locs rfl
  case c2 => rfl
  case c3 => rfl
  case c4 => rfl
  case c5 => decide
  intro L' h₁ F N
  try dsimp only
  have hz : vs.toArray.size ≤ sizeLine := by have := hi.length; rw [sizeLine_eq]; simp only [List.size_toArray]; omega
  k_steps
  rename_i F' N' hI' l1
  exact hR _ _ _ F'.keep ⟨_, _, rfl, (N' _ (.head _)).2.2, (N' _ (.head _)).1, hI'⟩
local macro_rules | `(tactic| k_enter) => `(tactic| ((with_reducible show codeAny _ _ (Code.call (Value.ref 184) _) _ _); k_dflt (refine' Ctr.use (k := 1) (enc_sysex_spec ?a ?b ?c ?d) ?e ?f ?g ?h ?i rfl rfl rfl rfl ?jd ?ju ?_; (case e => k_asm); (case f => k_asm); (case g => k_asm); (case h => k_asm); (case i => k_asm); (case a => exact od_dict (by k_asm) (by with_reducible assumption)); (case b => exact IsTup.keeps (by with_reducible assumption) (Fr.keep (by k_asm))); (case c => with_reducible assumption); (case d => with_reducible assumption); (case jd => show _ < _; dsimp only [Around.deeper, Around.in1]; omega); (case ju => show _ < _; dsimp only [Around.deeper, Around.in1]; omega)); k_dflt (intro v h' tk hk hf' ⟨d, ws, e, hd, hl, hi⟩ F' N'; subst e; have l1 := hf' _ hd; replace N' := news_add N' hl l1; clear hl hk hf'; obtain ⟨_, _, l1⟩ := l1; (try dsimp only [AllNe] at l1)); (try dsimp only)))
set_option maxHeartbeats 4000000 in
theorem enc_spec (Mf : s.heap.DictOf (strKind P w) f [(Str.ofString "type", .str (Str.ofString "sysex") t1), (Str.ofString "time", .int tm t2), (Str.ofString "data", .ref t)]) (Mt : IsTup s.heap t vs.toArray) (hi : IntsAre vs ns) (hn : ns.length ≤ 6) :
    Ctr 2 w mean mg mb 224 ⟨[.ref f], []⟩ s (fun v h' => ∃ d ws, v = .ref d ∧ s.heap.get? d = none ∧ h'.get? d = some (listOf ws.toArray 0) ∧ IntsAre ws ([240] ++ ns ++ [247])) := by
  intro A base outer R hh B X T hdp hun hR
  obtain ⟨_, dp, fr, gd, un⟩ := A
  obtain rfl := hh
  obtain rfl := B.stack
  dsimp only at hdp hun
  refine' enterKC (binds := [(Str.ofString "msg", .ref f)]) B X T ?k6 ?k7 ?k8 ?k9 ?kB ?kD ?_ ?c2 ?c3 ?c4
  case k6 => k_is
  case k7 => k_is
  case k8 => ktr_room
  case k9 => exact BindsTo.of_eq rfl
  case kB => exact rfl
  case kD => decide +kernel
  case c2 => rfl
  case c3 => rfl
  case c4 => rfl
  intro L' h₁ tk cells F N Y'
  k_cells Y'
  try dsimp only
  k_steps
  rename_i hi' F' N' _ _ l1
  exact hR _ _ _ F'.keep ⟨_, _, rfl, (N' _ (.head _)).2.2, (N' _ (.head _)).1, hi'⟩
local macro_rules | `(tactic| k_enter) => `(tactic| ((with_reducible show codeAny _ _ (Code.call (Value.ref 224) _) _ _); k_dflt (refine' Ctr.use (k := 2) (enc_spec ?a ?b ?c ?d) ?e ?f ?g ?h ?i rfl rfl rfl rfl ?jd ?ju ?_; (case e => k_asm); (case f => k_asm); (case g => k_asm); (case h => k_asm); (case i => k_asm); (case a => exact od_dict (by k_asm) (by with_reducible assumption)); (case b => exact IsTup.keeps (by with_reducible assumption) (Fr.keep (by k_asm))); (case c => with_reducible assumption); (case d => with_reducible assumption); (case jd => show _ < _; dsimp only [Around.deeper, Around.in1]; omega); (case ju => show _ < _; dsimp only [Around.deeper, Around.in1]; omega)); k_dflt (intro v h' tk hk hf' ⟨d, ws, e, hd, hl, hi⟩ F' N'; subst e; have l1 := hf' _ hd; replace N' := news_add N' hl l1; clear hl hk hf'; obtain ⟨_, _, l1⟩ := l1; (try dsimp only [AllNe] at l1)); (try dsimp only)))
set_option maxHeartbeats 4000000 in
theorem bytes_spec (M : Msg w s.heap a dx f t n hs tf t1 t2 tm vs ns) (hn : ns.length ≤ 6) :
    Ctr 3 w mean mg mb 388 ⟨[.ref a], []⟩ s (fun v h' => ∃ d ws, v = .ref d ∧ s.heap.get? d = none ∧ h'.get? d = some (listOf ws.toArray 0) ∧ IntsAre ws ([240] ++ ns ++ [247])) := by
  intro A base outer R hh B X T hdp hun hR
  obtain ⟨_, dp, fr, gd, un⟩ := A
  obtain rfl := hh
  obtain rfl := B.stack
  dsimp only at hdp hun
  refine' enterK (binds := [(Str.ofString "self", .ref a)]) B X T ?k6 ?k7 ?k8 ?k9 ?kB ?_ ?c2 ?c3 ?c4 ?c5
  case k6 => k_is
  case k7 => k_is
  case k8 => ktr_room
  case k9 => exact BindsTo.of_eq rfl
  case kB => exact locs rfl
  case c2 => rfl
  case c3 => rfl
  case c4 => rfl
  case c5 => decide
  intro L' h₁ F N
  try dsimp only
  have Mf := M.fld
  have Mt : IsTup s.heap t vs.toArray := M.tup
  have Mr := M.rowI
  k_steps
  rename_i hi' F' N' _ _ l1
  exact hR _ _ _ F'.keep ⟨_, _, rfl, (N' _ (.head _)).2.2, (N' _ (.head _)).1, hi'⟩
local macro_rules | `(tactic| walk_at "handedOut") => `(tactic| (k_here; refine handed_on rfl ?_))
theorem len_tup {w : World} {A : Around} {E : Value → Shared → Prop} {s : Shared} {h₀ : Heap} {L t : Addr} {m : Str → Option Value} {vs : List Value} {ns : List Int} {Q : Value → Shared → Prop} (F : Fr h₀ L s.heap m) (ht : IsTup h₀ t vs.toArray) (hi : IntsAre vs ns) (hn : ns.length ≤ 6)
    (h : Q (.int (ns.length : Int) (s.toks + 1)) { s with toks := s.toks + 1 + 1 }) : wpAny (model P w) A (call (.builtin "len") [.ref t]) Q E s := by
  have e : vs.toArray.size = ns.length := by have := hi.length; simp only [List.size_toArray]; omega
  refine PyProof.Rows.len_tuple (ht.keeps F.keep) (by rw [e]; omega) ?_
  rw [e]; exact h
local macro_rules | `(tactic| walk_at "call builtin:len") => `(tactic| (k_here; (with_reducible show wpAny _ _ (call (Value.builtin "len") [Value.ref _]) _ _ _); k_dflt (refine len_tup (by k_asm) (by with_reducible assumption) (by with_reducible assumption) (by with_reducible assumption) ?_)))
local macro_rules | `(tactic| k_enter) => `(tactic| ((with_reducible show codeAny _ _ (Code.call (Value.ref 238) _) _ _); k_dflt (refine' Ctr.use (k := 1) (type_spec ?a) ?e ?f ?g ?h ?i rfl rfl rfl rfl ?jd ?ju ?_; (case e => k_asm); (case f => k_asm); (case g => k_asm); (case h => k_asm); (case i => k_asm); (case a => exact Msg.keeps (by with_reducible assumption) (Fr.keep (by k_asm))); (case jd => show _ < _; dsimp only [Around.deeper, Around.in1]; omega); (case ju => show _ < _; dsimp only [Around.deeper, Around.in1]; omega)); k_dflt (intro v h' tk hk hf' e F' N'; subst e; clear hk hf'); (try dsimp only)))
local macro_rules | `(tactic| k_enter) => `(tactic| ((with_reducible show codeAny _ _ (Code.call (Value.ref 337) _) _ _); k_dflt (refine' Ctr.use (k := 1) (data_spec ?a) ?e ?f ?g ?h ?i rfl rfl rfl rfl ?jd ?ju ?_; (case e => k_asm); (case f => k_asm); (case g => k_asm); (case h => k_asm); (case i => k_asm); (case a => exact Msg.keeps (by with_reducible assumption) (Fr.keep (by k_asm))); (case jd => show _ < _; dsimp only [Around.deeper, Around.in1]; omega); (case ju => show _ < _; dsimp only [Around.deeper, Around.in1]; omega)); k_dflt (intro v h' tk hk hf' e F' N'; subst e; clear hk hf'); (try dsimp only)))
set_option maxHeartbeats 4000000 in
theorem len_spec (M : Msg w s.heap a dx f t n hs tf t1 t2 tm vs ns) (hn : ns.length ≤ 6) :
    Ctr 3 w mean mg mb 374 ⟨[.ref a], []⟩ s (fun v h' => ∃ t, v = .int (2 + ns.length) t) := by
  intro A base outer R hh B X T hdp hun hR
  obtain ⟨_, dp, fr, gd, un⟩ := A
  obtain rfl := hh
  obtain rfl := B.stack
  dsimp only at hdp hun
  refine' enterK (binds := [(Str.ofString "self", .ref a)]) B X T ?k6 ?k7 ?k8 ?k9 ?kB ?_ ?c2 ?c3 ?c4 ?c5
  case k6 => k_is
  case k7 => k_is
  case k8 => ktr_room
  case k9 => exact BindsTo.of_eq rfl
  case kB => exact locs rfl
  case c2 => rfl
  case c3 => rfl
  case c4 => rfl
  case c5 => decide
  intro L' h₁ F N
  try dsimp only
  have Mf := M.fld
  have Mt : IsTup s.heap t vs.toArray := M.tup
  have Mr := M.rowI
  k_steps
  rename Fr _ _ _ _ => F'
  exact hR _ _ _ F'.keep ⟨_, rfl⟩
end
end Mine
namespace Mine
theorem filled_LC3 : PySem.Challenge.rw_ae6013_01 = PySem.Challenge.rw_ae6013_01 → hd.heap_39 = hd.heap_39 → True := by
  k_fill
  intro _ _; trivial
local macro_rules | `(tactic| k_room) => `(tactic| ktr_room)
local macro_rules | `(tactic| k_units) => `(tactic| ktr_units)
section
variable {w : World} {mean : ExcName → Option Value} {mg mb : Str → Option Value} {s : Shared}
local macro_rules | `(tactic| walk_at "getMethod ref") => `(tactic| (k_here; (with_reducible show wpAny _ _ (getMethod (Value.ref _) (Str.ofString "update") _) _ _ _); k_dflt (refine kob_method (knd := PySem.strKind _ _) PySem.F.slot_dict_update BA.type_dict_update (by k_asm) (by k_mem) (by k_asm) ?_)))
local macro_rules | `(tactic| walk_at "exec For Name Subscript cons nil") => `(tactic| (k_here; (rename Fr _ _ _ _ => lF'); (with_unfolding_all refine' For_turns lF' ?_); k_whole))
local macro_rules | `(tactic| walk_at "call builtin:dict.update") => `(tactic| (k_here; (with_reducible show wpAny _ _ (call (Value.builtin "dict.update") [Value.ref _, Value.ref _]) _ _ _); k_dflt (refine' dict_update_of (knd := PySem.strKind _ _) ?F ?N ?U ?d ?o ?l ?z ?_; (case F => k_asm); (case N => k_asm); (case U => k_updF); (case d => k_asm); (case o => with_reducible assumption); (case l => with_reducible assumption); (case z => rw [sizeLine_eq]; simp only [List.length_cons, List.length_nil]; omega)); intro h' o' F' N' hd'; (try dsimp only at N')))
set_option maxHeartbeats 4000000 in
theorem make_spec {ov : Addr} {more : List (Str × Value)} {tk0 : Tok} (ho : s.heap.DictOf (strKind P w) ov more) (hn : more.length ≤ 6) (lo : (ov == sysModules) = false) :
    Ctr 1 w mean mg mb 93 ⟨[.str (Str.ofString "sysex") tk0, .ref ov], []⟩ s (fun v h' => ∃ d o, v = .ref d ∧ s.heap.get? d = none ∧ (d == sysModules) = false ∧ h'.get? d = some o ∧
      o.IsDictOf (strKind P w) (merged [(Str.ofString "type", .str (Str.ofString "sysex") tk0), (Str.ofString "time", .int 0 588), (Str.ofString "data", .ref 86)] more)) := by
  intro A base outer R hh B X T hdp hun hR
  obtain ⟨_, dp, fr, gd, un⟩ := A
  obtain rfl := hh
  obtain rfl := B.stack
  dsimp only at hdp hun
  refine' enterK (binds := [(Str.ofString "type_", .str (Str.ofString "sysex") tk0), (Str.ofString "overrides", .ref ov)]) B X T ?k6 ?k7 ?k8 ?k9 ?kB ?_ ?c2 ?c3 ?c4 ?c5
  case k6 => k_is
  case k7 => k_is
  case k8 => ktr_room
  case k9 => exact BindsTo.of_eq rfl
  case kB => exact locs rfl
  case c2 => rfl
  case c3 => rfl
  case c4 => rfl
  case c5 => decide
  intro L' h₁ F N
  try dsimp only
  k_steps
  rename_i F' N' hd'
  dsimp only
  exact hR _ _ _ F'.keep ⟨_, _, rfl, (N' _ (by k_mem)).2.2, by assumption, (N' _ (by k_mem)).1, hd'⟩
local macro_rules | `(tactic| walk_at "compareOp NotIn str ref") => `(tactic| (k_here; k_dflt (refine' topNotIn_K ?F ?X ?l ?k ?e ?o ?_; (case F => k_asm); (case X => k_asm); (case l => k_is); (case k => k_keys); (case e => k_is); (case o => decide))))
set_option maxHeartbeats 4000000 in
theorem check_type_spec {tk0 : Tok} : Ctr 1 w mean mg mb 100 ⟨[.str (Str.ofString "sysex") tk0], []⟩ s (fun v h' => v = .none) := by
  intro A base outer R hh B X T hdp hun hR
  obtain ⟨_, dp, fr, gd, un⟩ := A
  obtain rfl := hh
  obtain rfl := B.stack
  dsimp only at hdp hun
  refine' enterK (binds := [(Str.ofString "type_", .str (Str.ofString "sysex") tk0)]) B X T ?k6 ?k7 ?k8 ?k9 ?kB ?_ ?c2 ?c3 ?c4 ?c5
  case k6 => k_is
  case k7 => k_is
  case k8 => ktr_room
  case k9 => exact BindsTo.of_eq rfl
  case kB => exact locs rfl
  case c2 => rfl
  case c3 => rfl
  case c4 => rfl
  case c5 => decide
  intro L' h₁ F N
  try dsimp only
  k_steps
  rename Fr _ _ _ _ => F'
  try dsimp only
  exact hR _ _ _ F'.keep rfl
set_option maxHeartbeats 4000000 in
theorem check_time_spec {n : Int} {tk0 : Tok} : Ctr 1 w mean mg mb 156 ⟨[.int n tk0], []⟩ s (fun v h' => v = .none) := by
  intro A base outer R hh B X T hdp hun hR
  obtain ⟨_, dp, fr, gd, un⟩ := A
  obtain rfl := hh
  obtain rfl := B.stack
  dsimp only at hdp hun
  refine' enterK (binds := [(Str.ofString "time", .int n tk0)]) B X T ?k6 ?k7 ?k8 ?k9 ?kB ?_ ?c2 ?c3 ?c4 ?c5
  case k6 => k_is
  case k7 => k_is
  case k8 => ktr_room
  case k9 => exact BindsTo.of_eq rfl
  case kB => exact locs rfl
  case c2 => rfl
  case c3 => rfl
  case c4 => rfl
  case c5 => decide
  intro L' h₁ F N
  try dsimp only
  k_steps
  rename Fr _ _ _ _ => F'
  try dsimp only
  exact hR _ _ _ F'.keep rfl
set_option maxHeartbeats 4000000 in
theorem check_byte_spec {n : Int} {tk0 : Tok} (h0 : 0 ≤ n) (h1 : n ≤ 127) : Ctr 1 w mean mg mb 149 ⟨[.int n tk0], []⟩ s (fun v h' => v = .none) := by
  intro A base outer R hh B X T hdp hun hR
  obtain ⟨_, dp, fr, gd, un⟩ := A
  obtain rfl := hh
  obtain rfl := B.stack
  dsimp only at hdp hun
  refine' enterK (binds := [(Str.ofString "value", .int n tk0)]) B X T ?k6 ?k7 ?k8 ?k9 ?kB ?_ ?c2 ?c3 ?c4 ?c5
  case k6 => k_is
  case k7 => k_is
  case k8 => ktr_room
  case k9 => exact BindsTo.of_eq rfl
  case kB => exact locs rfl
  case c2 => rfl
  case c3 => rfl
  case c4 => rfl
  case c5 => decide
  intro L' h₁ F N
  try dsimp only
  k_steps
  rename Fr _ _ _ _ => F'
  try dsimp only
  exact hR _ _ _ F'.keep rfl
local macro_rules | `(tactic| k_enter) => `(tactic| ((with_reducible show codeAny _ _ (Code.call (Value.ref 149) _) _ _); k_dflt (refine' Ctr.use (k := 1) (check_byte_spec ?a ?b) ?e ?f ?g ?h ?i rfl rfl rfl rfl ?jd ?ju ?_; (case e => k_asm); (case f => k_asm); (case g => k_asm); (case h => k_asm); (case i => k_asm); (case a => with_reducible assumption); (case b => with_reducible assumption); (case jd => show _ < _; dsimp only [Around.deeper, Around.in1]; omega); (case ju => show _ < _; dsimp only [Around.deeper, Around.in1]; omega)); k_dflt (intro v h' tk hk hf' e F' N'; subst e; clear hk hf'); (try dsimp only)))
set_option maxHeartbeats 4000000 in
theorem check_data_spec {v : Value} {ns : List Int} (H : Handed s.heap v ns) (hr : ∀ n ∈ ns, 0 ≤ n ∧ n ≤ 127) : Ctr 2 w mean mg mb 128 ⟨[v], []⟩ s (fun v h' => v = .none) := by
  intro A base outer R hh B X T hdp hun hR
  obtain ⟨_, dp, fr, gd, un⟩ := A
  obtain rfl := hh
  obtain rfl := B.stack
  dsimp only at hdp hun
  refine' enterK (binds := [(Str.ofString "data_bytes", v)]) B X T ?k6 ?k7 ?k8 ?k9 ?kB ?_ ?c2 ?c3 ?c4 ?c5
  case k6 => k_is
  case k7 => k_is
  case k8 => ktr_room
  case k9 => exact BindsTo.of_eq rfl
  case kB => exact locs rfl
  case c2 => rfl
  case c3 => rfl
  case c4 => rfl
  case c5 => decide
  intro L' h₁ F N
  try dsimp only
  refine wpAny_execs_cons (For_invV s.heap rfl rfl ?_)
  refine' ld ?k1 ?k2 ?_
  case k1 => k_asm
  case k2 => exact rfl
  refine iter_handed (R := fun (_ : Unit) m nx => nx = [] ∧ ∀ y, y ≠ Str.ofString "byte" → m y = List.lookup y [(Str.ofString "data_bytes", v)].reverse) (fun _ _ => ()) () H rfl (by k_asm) (by k_asm) ⟨rfl, fun _ _ => rfl⟩ ?turn ?done
  case turn =>
    rintro k t a m₁ nx h tk own hk hoff ⟨rfl, hm⟩ F₁ N₁
    obtain ⟨h0, h1⟩ := hr k hk
    have em : (fun y => if y = Str.ofString "byte" then some (Value.int k t) else m₁ y) = fun y => if y = Str.ofString "byte" then some (Value.int k t) else List.lookup y [(Str.ofString "data_bytes", v)].reverse := by
      funext y
      by_cases e : y = Str.ofString "byte"
      · simp only [if_pos e]
      · simp only [if_neg e]; exact hm y e
    rw [em] at F₁
    clear F N
    k_steps
  case done =>
    rintro m₁ nx h tk ⟨rfl, hm⟩ F₁ N₁
    refine wpAny_execs_nil ?_
    exact hR _ _ _ F₁.keep rfl
local macro_rules | `(tactic| k_enter) => `(tactic| ((with_reducible show codeAny _ _ (Code.call (Value.ref 128) _) _ _); k_dflt (refine' Ctr.use (k := 2) (check_data_spec ?a ?b) ?e ?f ?g ?h ?i rfl rfl rfl rfl ?jd ?ju ?_; (case e => k_asm); (case f => k_asm); (case g => k_asm); (case h => k_asm); (case i => k_asm); (case a => exact Handed.keeps (by with_reducible assumption) (Fr.keep (by k_asm))); (case b => with_reducible assumption); (case jd => show _ < _; dsimp only [Around.deeper, Around.in1]; omega); (case ju => show _ < _; dsimp only [Around.deeper, Around.in1]; omega)); k_dflt (intro v h' tk hk hf' e F' N'; subst e; clear hk hf'); (try dsimp only)))
local macro_rules | `(tactic| k_enter) => `(tactic| ((with_reducible show codeAny _ _ (Code.call (Value.ref 100) _) _ _); k_dflt (refine' Ctr.use (k := 1) (check_type_spec) ?e ?f ?g ?h ?i rfl rfl rfl rfl ?jd ?ju ?_; (case e => k_asm); (case f => k_asm); (case g => k_asm); (case h => k_asm); (case i => k_asm);  (case jd => show _ < _; dsimp only [Around.deeper, Around.in1]; omega); (case ju => show _ < _; dsimp only [Around.deeper, Around.in1]; omega)); k_dflt (intro v h' tk hk hf' e F' N'; subst e; clear hk hf'); (try dsimp only)))
local macro_rules | `(tactic| k_enter) => `(tactic| ((with_reducible show codeAny _ _ (Code.call (Value.ref 156) _) _ _); k_dflt (refine' Ctr.use (k := 1) (check_time_spec) ?e ?f ?g ?h ?i rfl rfl rfl rfl ?jd ?ju ?_; (case e => k_asm); (case f => k_asm); (case g => k_asm); (case h => k_asm); (case i => k_asm);  (case jd => show _ < _; dsimp only [Around.deeper, Around.in1]; omega); (case ju => show _ < _; dsimp only [Around.deeper, Around.in1]; omega)); k_dflt (intro v h' tk hk hf' e F' N'; subst e; clear hk hf'); (try dsimp only)))
set_option maxHeartbeats 4000000 in
theorem check_value_type {t1 t2 : Tok} : Ctr 3 w mean mg mb 163 ⟨[.str (Str.ofString "type") t1, .str (Str.ofString "sysex") t2], []⟩ s (fun v h' => v = .none) := by
  intro A base outer R hh B X T hdp hun hR
  obtain ⟨_, dp, fr, gd, un⟩ := A
  obtain rfl := hh
  obtain rfl := B.stack
  dsimp only at hdp hun
  refine' enterK (binds := [(Str.ofString "name", .str (Str.ofString "type") t1), (Str.ofString "value", .str (Str.ofString "sysex") t2)]) B X T ?k6 ?k7 ?k8 ?k9 ?kB ?_ ?c2 ?c3 ?c4 ?c5
  case k6 => k_is
  case k7 => k_is
  case k8 => ktr_room
  case k9 => exact BindsTo.of_eq rfl
  case kB => exact locs rfl
  case c2 => rfl
  case c3 => rfl
  case c4 => rfl
  case c5 => decide
  intro L' h₁ F N
  try dsimp only
  k_steps
  rename Fr _ _ _ _ => F'
  try dsimp only
  exact hR _ _ _ F'.keep rfl
set_option maxHeartbeats 4000000 in
theorem check_value_time {t1 t2 : Tok} {n : Int} : Ctr 3 w mean mg mb 163 ⟨[.str (Str.ofString "time") t1, .int n t2], []⟩ s (fun v h' => v = .none) := by
  intro A base outer R hh B X T hdp hun hR
  obtain ⟨_, dp, fr, gd, un⟩ := A
  obtain rfl := hh
  obtain rfl := B.stack
  dsimp only at hdp hun
  refine' enterK (binds := [(Str.ofString "name", .str (Str.ofString "time") t1), (Str.ofString "value", .int n t2)]) B X T ?k6 ?k7 ?k8 ?k9 ?kB ?_ ?c2 ?c3 ?c4 ?c5
  case k6 => k_is
  case k7 => k_is
  case k8 => ktr_room
  case k9 => exact BindsTo.of_eq rfl
  case kB => exact locs rfl
  case c2 => rfl
  case c3 => rfl
  case c4 => rfl
  case c5 => decide
  intro L' h₁ F N
  try dsimp only
  k_steps
  rename Fr _ _ _ _ => F'
  try dsimp only
  exact hR _ _ _ F'.keep rfl
set_option maxHeartbeats 4000000 in
theorem check_value_data {t1 : Tok} {v : Value} {ns : List Int} (H : Handed s.heap v ns) (hr : ∀ n ∈ ns, 0 ≤ n ∧ n ≤ 127) : Ctr 3 w mean mg mb 163 ⟨[.str (Str.ofString "data") t1, v], []⟩ s (fun v h' => v = .none) := by
  intro A base outer R hh B X T hdp hun hR
  obtain ⟨_, dp, fr, gd, un⟩ := A
  obtain rfl := hh
  obtain rfl := B.stack
  dsimp only at hdp hun
  refine' enterK (binds := [(Str.ofString "name", .str (Str.ofString "data") t1), (Str.ofString "value", v)]) B X T ?k6 ?k7 ?k8 ?k9 ?kB ?_ ?c2 ?c3 ?c4 ?c5
  case k6 => k_is
  case k7 => k_is
  case k8 => ktr_room
  case k9 => exact BindsTo.of_eq rfl
  case kB => exact locs rfl
  case c2 => rfl
  case c3 => rfl
  case c4 => rfl
  case c5 => decide
  intro L' h₁ F N
  try dsimp only
  k_steps
  rename Fr _ _ _ _ => F'
  try dsimp only
  exact hR _ _ _ F'.keep rfl
end
end Mine
namespace Mine
theorem filled_LC9 : PySem.Challenge.rw_ae6013_01 = PySem.Challenge.rw_ae6013_01 → hd.heap_39 = hd.heap_39 → True := by
  k_fill
  intro _ _; trivial
local macro_rules | `(tactic| k_room) => `(tactic| ktr_room)
local macro_rules | `(tactic| k_units) => `(tactic| ktr_units)
section
variable {w : World} {mean : ExcName → Option Value} {mg mb : Str → Option Value} {s : Shared}
local macro_rules | `(tactic| k_inst) => `(tactic| exact Msg.inst (Msg.keeps (by with_reducible assumption) (Fr.keep (by k_asm))))
local macro_rules | `(tactic| k_enter) => `(tactic| ((with_reducible show codeAny _ _ (Code.call (Value.ref 388) _) _ _); k_dflt (refine' Ctr.use (k := 3) (bytes_spec ?a ?b) ?e ?f ?g ?h ?i rfl rfl rfl rfl ?jd ?ju ?_; (case e => k_asm); (case f => k_asm); (case g => k_asm); (case h => k_asm); (case i => k_asm); (case a => exact Msg.keeps (by with_reducible assumption) (Fr.keep (by k_asm))); (case b => with_reducible assumption); (case jd => show _ < _; dsimp only [Around.deeper, Around.in1]; omega); (case ju => show _ < _; dsimp only [Around.deeper, Around.in1]; omega)); k_dflt (intro v h' tk hk hf' ⟨d, ws, e, hd, hl, hi⟩ F' N'; subst e; have l1 := hf' _ hd; replace N' := news_add N' hl l1; clear hl hk hf'; obtain ⟨_, _, l1⟩ := l1; (try dsimp only [AllNe] at l1)); (try dsimp only)))
variable {a dx f t : Addr} {n : Nat} {hs : Int} {tf t1 t2 : Tok} {tm : Int} {vs : List Value} {ns : List Int}
theorem octets {ns : List Int} (hr : ∀ n ∈ ns, 0 ≤ n ∧ n ≤ 127) : ∀ n ∈ [240] ++ ns ++ [247], 0 ≤ n ∧ n < 256 := by
  intro n hn
  simp only [List.mem_append, List.mem_singleton] at hn
  rcases hn with (h | h) | h
  · omega
  · have := hr n h; omega
  · omega
set_option maxHeartbeats 4000000 in
theorem bin_spec (M : Msg w s.heap a dx f t n hs tf t1 t2 tm vs ns) (hn : ns.length ≤ 6) (hr : ∀ n ∈ ns, 0 ≤ n ∧ n ≤ 127) :
    CtrG 4 w mean mg mb 268 ⟨[.ref a], []⟩ s (fun v h' => ∃ l, v = .ref l ∧ s.heap.get? l = none ∧ h'.get? l = some (BA.barr (byteArr ([240] ++ ns ++ [247])))) := by
  intro A base outer R hh B X T hdp hun hR
  obtain ⟨_, dp, fr, gd, un⟩ := A
  obtain rfl := hh
  obtain rfl := B.stack
  dsimp only at hdp hun
  refine' enterG (binds := [(Str.ofString "self", .ref a)]) B X T ?k6 ?k7 ?k8 ?k9 ?kB ?_ ?c2 ?c3 ?c4 ?c5
  case k6 => k_is
  case k7 => k_is
  case k8 => ktr_room
  case k9 => exact BindsTo.of_eq rfl
  case kB => exact locs rfl
  case c2 => rfl
  case c3 => rfl
  case c4 => rfl
  case c5 => decide
  intro L' h₁ F N
  try dsimp only
  refine G_execs_cons (G_Return (G_Call_Name ?_))
  k_steps
  refine G_callWith_type ?_
  k_steps
  rename Fr _ _ _ _ => Ff
  rename News _ _ _ _ => Nf
  rename IntsAre _ _ => If
  refine BA.call_G (Handed.list (News.isList Nf (List.Mem.head _)) If) (octets hr) (by rw [sizeLine_eq]; simp only [List.length_append, List.length_cons, List.length_nil]; omega) fun l h' hl hk hb => ?_
  exact hR _ _ _ (fun b o e => hk _ _ (Ff.keep _ _ e)) ⟨l, rfl, none_of_keep Ff hl, hb⟩
/-- a handed row: what it is, and that it is new -/
structure Dressed (k : Int) (h : Heap) (v : Value) (ns : List Int) (h' : Heap) : Prop where
  is : Handed h' v ns
  new : ∀ l, v = .ref l → h.get? l = none
  lst : k = 0 → ∃ l vs c, v = .ref l ∧ h'.get? l = some (listOf (List.toArray vs) c) ∧ IntsAre vs ns
  arr : k = 3 → ∃ l, v = .ref l ∧ h'.get? l = some (BA.barr (byteArr ns))
theorem Handed.lst_keeps {h h' : Heap} {a : Addr} {items : Array Value} (x : h.IsList a items) (hk : ∀ b o, h.get? b = some o → h'.get? b = some o) : h'.IsList a items := let ⟨o, ho, r⟩ := x; ⟨o, hk _ _ ho, r⟩
section
variable {r : Addr} {tk0 : Tok}
local macro_rules | `(tactic| walk_at "call type:tuple") => `(tactic| (k_here; (with_reducible show wpAny _ _ (call (Value.type "tuple") [_]) _ _ _); k_dflt (refine' tuple_K ?F ?N ?H ?hh ?hn ?_ ?_; (case F => k_asm); (case N => k_asm); (case H => with_reducible assumption); (case hh => rfl); (case hn => with_reducible assumption)); all_goals (first | (with_reducible intro t vs h' tk F' N' l1 hi; (try k_lt l1)) | (with_reducible intro t vs e ht hi))))
set_option maxHeartbeats 4000000 in
theorem dress0 (hr : s.heap.IsList r vs.toArray) (hi : IntsAre vs ns) (hn : ns.length ≤ 6) :
    Ctr 1 w mean mg mb 407 ⟨[.ref r, .int 0 tk0], []⟩ s (fun v h' => Dressed 0 s.heap v ns h') := by
  intro A base outer R hh B X T hdp hun hR
  obtain ⟨_, dp, fr, gd, un⟩ := A
  obtain rfl := hh
  obtain rfl := B.stack
  dsimp only at hdp hun
  refine' enterK (binds := [(Str.ofString "row", .ref r), (Str.ofString "k", .int 0 tk0)]) B X T ?k6 ?k7 ?k8 ?k9 ?kB ?_ ?c2 ?c3 ?c4 ?c5
  case k6 => k_is
  case k7 => k_is
  case k8 => ktr_room
  case k9 => exact BindsTo.of_eq rfl
  case kB => exact locs rfl
  case c2 => rfl
  case c3 => rfl
  case c4 => rfl
  case c5 => decide
  intro L' h₁ F N
  try dsimp only
  have hz : vs.toArray.size ≤ sizeLine := by have := hi.length; rw [sizeLine_eq]; simp only [List.size_toArray]; omega
  k_steps
  rename Fr _ _ _ _ => Ff
  rename News _ _ _ _ => Nf
  have x := Nf _ (List.Mem.head _)
  exact hR _ _ _ Ff.keep ⟨.list (News.isList Nf (List.Mem.head _)) hi, fun l e => by cases e; exact x.2.2, fun _ => ⟨_, _, _, rfl, x.1, hi⟩, fun e => by omega⟩
set_option maxHeartbeats 4000000 in
theorem dress1 (hr : s.heap.IsList r vs.toArray) (hi : IntsAre vs ns) (hn : ns.length ≤ 6) :
    Ctr 1 w mean mg mb 407 ⟨[.ref r, .int 1 tk0], []⟩ s (fun v h' => Dressed 1 s.heap v ns h') := by
  intro A base outer R hh B X T hdp hun hR
  obtain ⟨_, dp, fr, gd, un⟩ := A
  obtain rfl := hh
  obtain rfl := B.stack
  dsimp only at hdp hun
  refine' enterK (binds := [(Str.ofString "row", .ref r), (Str.ofString "k", .int 1 tk0)]) B X T ?k6 ?k7 ?k8 ?k9 ?kB ?_ ?c2 ?c3 ?c4 ?c5
  case k6 => k_is
  case k7 => k_is
  case k8 => ktr_room
  case k9 => exact BindsTo.of_eq rfl
  case kB => exact locs rfl
  case c2 => rfl
  case c3 => rfl
  case c4 => rfl
  case c5 => decide
  intro L' h₁ F N
  try dsimp only
  have H : Handed s.heap (.ref r) ns := .list hr hi
  k_steps
  · rename IsTup _ _ _ => ht
    rename Value.ref _ = Value.ref _ => e
    cases e
    obtain ⟨o, ho, hc, _⟩ := ht
    obtain ⟨o', ho', hc', _⟩ := hr
    rw [ho] at ho'; cases ho'
    rw [hc] at hc'; exact absurd hc' (by decide)
  · rename Fr _ _ _ _ => Ff
    rename News _ _ _ _ => Nf
    rename IntsAre _ _ => If
    have x := Nf _ (List.Mem.head _)
    exact hR _ _ _ Ff.keep ⟨.tuple (News.isTup Nf (List.Mem.head _)) If, fun l e => by cases e; exact x.2.2, fun e => by omega, fun e => by omega⟩
theorem dress2 (hr : s.heap.IsList r vs.toArray) (hi : IntsAre vs ns) (hn : ns.length ≤ 6) (h0 : ∀ n ∈ ns, 0 ≤ n ∧ n < 256) :
    Ctr 1 w mean mg mb 407 ⟨[.ref r, .int 2 tk0], []⟩ s (fun v h' => Dressed 2 s.heap v ns h') := by
  intro A base outer R hh B X T hdp hun hR
  obtain ⟨_, dp, fr, gd, un⟩ := A
  obtain rfl := hh
  obtain rfl := B.stack
  dsimp only at hdp hun
  refine' enterK (binds := [(Str.ofString "row", .ref r), (Str.ofString "k", .int 2 tk0)]) B X T ?k6 ?k7 ?k8 ?k9 ?kB ?_ ?c2 ?c3 ?c4 ?c5
  case k6 => k_is
  case k7 => k_is
  case k8 => ktr_room
  case k9 => exact BindsTo.of_eq rfl
  case kB => exact locs rfl
  case c2 => rfl
  case c3 => rfl
  case c4 => rfl
  case c5 => decide
  intro L' h₁ F N
  try dsimp only
  k_steps
  rename Fr _ _ _ _ => Ff
  exact hR _ _ _ Ff.keep ⟨.bytes h0, fun l e => (by cases e), fun e => by omega, fun e => by omega⟩
theorem dress3 (hr : s.heap.IsList r vs.toArray) (hi : IntsAre vs ns) (hn : ns.length ≤ 6) (h0 : ∀ n ∈ ns, 0 ≤ n ∧ n < 256) :
    CtrG 1 w mean mg mb 407 ⟨[.ref r, .int 3 tk0], []⟩ s (fun v h' => Dressed 3 s.heap v ns h') := by
  intro A base outer R hh B X T hdp hun hR
  obtain ⟨_, dp, fr, gd, un⟩ := A
  obtain rfl := hh
  obtain rfl := B.stack
  dsimp only at hdp hun
  refine' enterG (binds := [(Str.ofString "row", .ref r), (Str.ofString "k", .int 3 tk0)]) B X T ?k6 ?k7 ?k8 ?k9 ?kB ?_ ?c2 ?c3 ?c4 ?c5
  case k6 => k_is
  case k7 => k_is
  case k8 => ktr_room
  case k9 => exact BindsTo.of_eq rfl
  case kB => exact locs rfl
  case c2 => rfl
  case c3 => rfl
  case c4 => rfl
  case c5 => decide
  intro L' h₁ F N
  try dsimp only
  refine G_execs_cons (G_any ?_)
  k_steps
  refine G_execs_cons (G_any ?_)
  k_steps
  refine G_execs_cons (G_any ?_)
  k_steps
  refine G_execs_cons (G_Return (G_Call_Name ?_))
  k_steps
  refine G_callWith_type ?_
  k_steps
  rename Fr _ _ _ _ => Ff
  refine BA.call_G (Handed.list (Handed.lst_keeps hr Ff.keep) hi) h0 (by rw [sizeLine_eq]; omega) fun l h' hl hk hb => ?_
  exact hR _ _ _ (fun b o e => hk _ _ (Ff.keep _ _ e)) ⟨.barr h0 hb, fun l' e => by cases e; exact none_of_keep Ff hl, fun e => by omega, fun _ => ⟨l, rfl, hb⟩⟩
theorem dress_spec {k : Int} (hk0 : 0 ≤ k) (hk1 : k ≤ 3) (hr : s.heap.IsList r vs.toArray) (hi : IntsAre vs ns) (hn : ns.length ≤ 6) (h0 : ∀ n ∈ ns, 0 ≤ n ∧ n < 256) :
    CtrG 1 w mean mg mb 407 ⟨[.ref r, .int k tk0], []⟩ s (fun v h' => Dressed k s.heap v ns h') := by
  have : k = 0 ∨ k = 1 ∨ k = 2 ∨ k = 3 := by omega
  rcases this with rfl | rfl | rfl | rfl
  · exact fun A base outer R a b c d e f g => codeG_any (dress0 hr hi hn A base outer R a b c d e f g)
  · exact fun A base outer R a b c d e f g => codeG_any (dress1 hr hi hn A base outer R a b c d e f g)
  · exact fun A base outer R a b c d e f g => codeG_any (dress2 hr hi hn h0 A base outer R a b c d e f g)
  · exact dress3 hr hi hn h0
end
end
end Mine
namespace Mine
theorem filled_LC4 : PySem.Challenge.rw_ae6013_01 = PySem.Challenge.rw_ae6013_01 → hd.heap_39 = hd.heap_39 → True := by
  k_fill
  intro _ _; trivial
local macro_rules | `(tactic| k_room) => `(tactic| ktr_room)
local macro_rules | `(tactic| k_units) => `(tactic| ktr_units)
section
variable {w : World} {mean : ExcName → Option Value} {mg mb : Str → Option Value} {s : Shared}
local macro_rules | `(tactic| walk_at "subscriptTail") => `(tactic| (k_here; (with_reducible show wpAny _ _ (subscriptTail _ _ (Value.ref _) (Value.str _ _)) _ _ _); k_dflt (refine od_item (knd := PySem.strKind _ _) (by k_asm) (by with_reducible assumption) (strKind_is _ _ _ _) (by rfl) ?_)))
local macro_rules | `(tactic| walk_at "getMethod ref") => `(tactic| (k_here; (with_reducible show wpAny _ _ (getMethod (Value.ref _) (Str.ofString "items") _) _ _ _); k_dflt (refine od_method (knd := PySem.strKind _ _) PySem.F.slot_dict_items PySem.F.type_dict_items (by k_asm) (by with_reducible assumption) ?_)))
local macro_rules | `(tactic| walk_at "call builtin:dict.items") => `(tactic| (k_here; k_dflt (refine items_call (by k_asm) (by k_asm) (by with_reducible assumption) (by with_reducible assumption) ?_; intro v' h' F' N' l1; (try k_lt l1))))
local macro_rules | `(tactic| walk_at "exec For Tuple Call cons nil") => `(tactic| (k_here; (rename Fr _ _ _ _ => lF'); (with_unfolding_all refine' For_turns lF' ?_); k_whole))
local macro_rules | `(tactic| walk_at "pyIter ref") => `(tactic| (k_here; (with_reducible show wpAny _ _ (pyIter (Value.ref _)) (fun it s₂ => TurnsAt _ _ _ _ _ _ _ _ _ it s₂) _ _); (with_unfolding_all refine' items_old (xs := [_, _, _]) ?h ?F ?N ?v ?d ?x ?_; (case h => with_unfolding_all rfl); (case F => k_asm); (case N => k_asm); (case v => exact ⟨_, News.get (by k_asm) (by k_mem), rfl, rfl⟩); (case d => with_reducible assumption); (case x => rfl); k_whole); intro i' l1; (try k_lt l1)))
local macro_rules | `(tactic| walk_at "getMethod ref") => `(tactic| (k_here; (with_reducible show wpAny _ _ (getMethod (Value.ref 29) (Str.ofString "get") _) _ _ _); k_dflt (refine' topMethod_K PySem.F.slot_dict_get PySem.F.type_dict_get ?F ?X ?l ?k ?_; (case F => k_asm); (case X => k_asm); (case l => k_is); (case k => k_keys))))
local macro_rules | `(tactic| walk_at "call builtin:dict.get") => `(tactic| (k_here; (with_reducible show wpAny _ _ (call (Value.builtin "dict.get") [Value.ref 29, _]) _ _ _); k_dflt (refine' topGet_K ?F ?X ?l ?k ?e ?o ?_; (case F => k_asm); (case X => k_asm); (case l => k_is); (case k => k_keys); (case e => k_is); (case o => decide)); (try dsimp only)))
local macro_rules | `(tactic| walk_at "compareOp NotIn str ref") => `(tactic| (k_here; (with_reducible show wpAny _ _ (compareOp CmpOp.NotIn (Value.str _ _) (Value.ref 53)) _ _ _); k_dflt (refine' topNotInTup (xs := [Str.ofString "data", Str.ofString "type", Str.ofString "time"]) (b := true) ?F ?X ?l ?s ?b ?_; (case F => k_asm); (case X => k_asm); (case l => k_is); (case s => kde_strs); (case b => decide))))
local macro_rules | `(tactic| k_enter) => `(tactic| ((with_reducible show codeAny _ _ (Code.call (Value.ref 163) { pos := [Value.str (Str.ofString "type") _, Value.str _ _] }) _ _); k_dflt (refine' Ctr.use (k := 3) (check_value_type) ?e ?f ?g ?h ?i rfl rfl rfl rfl ?jd ?ju ?_; (case e => k_asm); (case f => k_asm); (case g => k_asm); (case h => k_asm); (case i => k_asm);  (case jd => show _ < _; dsimp only [Around.deeper, Around.in1]; omega); (case ju => show _ < _; dsimp only [Around.deeper, Around.in1]; omega)); k_dflt (intro v h' tk hk hf' e F' N'; subst e; clear hk hf'); (try dsimp only)))
local macro_rules | `(tactic| k_enter) => `(tactic| ((with_reducible show codeAny _ _ (Code.call (Value.ref 163) { pos := [Value.str (Str.ofString "time") _, Value.int _ _] }) _ _); k_dflt (refine' Ctr.use (k := 3) (check_value_time) ?e ?f ?g ?h ?i rfl rfl rfl rfl ?jd ?ju ?_; (case e => k_asm); (case f => k_asm); (case g => k_asm); (case h => k_asm); (case i => k_asm);  (case jd => show _ < _; dsimp only [Around.deeper, Around.in1]; omega); (case ju => show _ < _; dsimp only [Around.deeper, Around.in1]; omega)); k_dflt (intro v h' tk hk hf' e F' N'; subst e; clear hk hf'); (try dsimp only)))
local macro_rules | `(tactic| k_enter) => `(tactic| ((with_reducible show codeAny _ _ (Code.call (Value.ref 163) { pos := [Value.str (Str.ofString "data") _, _] }) _ _); k_dflt (refine' Ctr.use (k := 3) (check_value_data ?a ?b) ?e ?f ?g ?h ?i rfl rfl rfl rfl ?jd ?ju ?_; (case e => k_asm); (case f => k_asm); (case g => k_asm); (case h => k_asm); (case i => k_asm); (case a => exact Handed.keeps (by with_reducible assumption) (Fr.keep (by k_asm))); (case b => with_reducible assumption); (case jd => show _ < _; dsimp only [Around.deeper, Around.in1]; omega); (case ju => show _ < _; dsimp only [Around.deeper, Around.in1]; omega)); k_dflt (intro v h' tk hk hf' e F' N'; subst e; clear hk hf'); (try dsimp only)))
set_option maxHeartbeats 4000000 in
theorem check_msg_spec {dm : Addr} {t1 t2 : Tok} {tm : Int} {v : Value} {ns : List Int} (hd : s.heap.DictOf (strKind P w) dm [(Str.ofString "type", .str (Str.ofString "sysex") t1), (Str.ofString "time", .int tm t2), (Str.ofString "data", v)]) (lo : (dm == sysModules) = false)
    (H : Handed s.heap v ns) (hr : ∀ n ∈ ns, 0 ≤ n ∧ n ≤ 127) : Ctr 4 w mean mg mb 170 ⟨[.ref dm], []⟩ s (fun v _ => v = .none) := by
  intro A base outer R hh B X T hdp hun hR
  obtain ⟨_, dp, fr, gd, un⟩ := A
  obtain rfl := hh
  obtain rfl := B.stack
  dsimp only at hdp hun
  refine' enterK (binds := [(Str.ofString "msgdict", .ref dm)]) B X T ?k6 ?k7 ?k8 ?k9 ?kB ?_ ?c2 ?c3 ?c4 ?c5
  case k6 => k_is
  case k7 => k_is
  case k8 => ktr_room
  case k9 => exact BindsTo.of_eq rfl
  case kB => exact locs rfl
  case c2 => rfl
  case c3 => rfl
  case c4 => rfl
  case c5 => decide
  intro L' h₁ F N
  try dsimp only
  k_steps
  rename Fr _ _ _ _ => F'
  try dsimp only
  exact hR _ _ _ F'.keep rfl
end
end Mine
namespace Mine
theorem filled_LC5 : PySem.Challenge.rw_ae6013_01 = PySem.Challenge.rw_ae6013_01 → hd.heap_39 = hd.heap_39 → True := by
  k_fill
  intro _ _; trivial
local macro_rules | `(tactic| k_room) => `(tactic| ktr_room)
local macro_rules | `(tactic| k_units) => `(tactic| ktr_units)
section
variable {w : World} {mean : ExcName → Option Value} {mg mb : Str → Option Value} {s : Shared}
theorem under_make {dp un : Nat} {outer : List Env} {gd : Option (List Code)} {C : Addr} {rest : List Value} {kw : List (Str × Value)} :
    Around.under ⟨none, dp, some outer, gd, un⟩ (.builtin "type.__call__" ⟨.ref C :: rest, kw⟩) = ⟨none, dp + 1, some outer, gd, un + 1⟩ := rfl
/-- what the making of a message leaves -/
def Made (w : World) (h : Heap) (tm : Int) (ns : List Int) (u : Value) (h' : Heap) : Prop :=
  ∃ a dx f t n hs tf t1 t2 vs, u = .ref a ∧ h.get? a = none ∧ h.get? dx = none ∧ h.get? f = none ∧ Msg w h' a dx f t n hs tf t1 t2 tm vs ns
local macro_rules | `(tactic| walk_at "call builtin:dict.pop") => `(tactic| (k_here; (with_reducible show wpAny _ _ (call (Value.builtin "dict.pop") [Value.ref _, Value.str _ _, _]) _ _ _); k_dflt (refine' pop_absent (knd := PySem.strKind _ _) ?N ?m ?d ?o (strKind_is _ _ _ _) (by rfl) (PySem.F.args_dict_pop_3 _ _ _) ?l ?_; (case N => k_asm); (case m => k_mem); (case d => k_asm); (case o => k_asm); (case l => rfl))))
local macro_rules | `(tactic| walk_at "call type:tuple") => `(tactic| (k_here; (with_reducible show wpAny _ _ (call (Value.type "tuple") [_]) _ _ _); k_dflt (refine' tuple_K ?F ?N ?H ?hh ?hn ?_ ?_; (case F => k_asm); (case N => k_asm); (case H => with_reducible assumption); (case hh => rfl); (case hn => with_reducible assumption)); all_goals (first | (with_reducible intro t vs h' tk F' N' l1 hi; (try k_lt l1)) | (with_reducible intro t vs e ht hi))))
theorem made_of {w : World} {h₀ h : Heap} {L x dx f t : Addr} {n : Nat} {hs : Int} {tf t1 t2 : Tok} {tm : Int} {vs : List Value} {ns : List Int} {o : Obj} (hx : h.get? x = some (instObj 391 dx) ∧ x ≠ L ∧ h₀.get? x = none)
    (hdx : h.get? dx = some (dictOf [⟨hs, .str (Str.ofString "fields") tf, .ref f⟩] n) ∧ dx ≠ L ∧ h₀.get? dx = none) (hf : h.get? f = some o ∧ f ≠ L ∧ h₀.get? f = none) (lo : (f == sysModules) = false)
    (ho : o.IsDictOf (strKind P w) [(Str.ofString "type", .str (Str.ofString "sysex") t1), (Str.ofString "time", .int tm t2), (Str.ofString "data", .ref t)]) (ht : IsTup h t vs.toArray) (hi : IntsAre vs ns) : Made w h₀ tm ns (.ref x) h :=
  ⟨x, dx, f, t, n, hs, tf, t1, t2, vs, rfl, hx.2.2, hdx.2.2, hf.2.2, ⟨hx.1, hdx.1, Heap.dictOf_iff.mpr ⟨o, hf.1, ho⟩, lo, ht, hi⟩⟩
local macro_rules | `(tactic| k_enter) => `(tactic| ((with_reducible show codeAny _ _ (Code.call (Value.ref 170) _) _ _); k_dflt (refine' Ctr.use (k := 4) (check_msg_spec ?a ?b ?c ?d) ?e ?f ?g ?h ?i rfl rfl rfl rfl ?jd ?ju ?_; (case e => k_asm); (case f => k_asm); (case g => k_asm); (case h => k_asm); (case i => k_asm); (case a => exact kda_dict (by k_asm) (by k_mem) (by k_asm)); (case b => k_asm); (case c => (first | exact Handed.tuple (IsTup.keeps (by with_reducible assumption) (Fr.keep (by k_asm))) (by with_reducible assumption) | exact Handed.tuple (News.isTup (by k_asm) (by k_mem)) (by with_reducible assumption))); (case d => with_reducible assumption); (case jd => show _ < _; dsimp only [Around.deeper, Around.in1]; omega); (case ju => show _ < _; dsimp only [Around.deeper, Around.in1]; omega)); k_dflt (intro v' h' tk' hk hf' e F' N'; subst e; clear hk hf'); (try dsimp only)))
local macro_rules | `(tactic| k_enter) => `(tactic| ((with_reducible show codeAny _ _ (Code.call (Value.ref 93) _) _ _); k_dflt (refine' Ctr.use (k := 1) (make_spec ?a ?b ?c) ?e ?f ?g ?h ?i rfl rfl rfl rfl ?jd ?ju ?_; (case e => k_asm); (case f => k_asm); (case g => k_asm); (case h => k_asm); (case i => k_asm); (case a => exact kda_dict (by k_asm) (by k_mem) (by k_asm)); (case b => exact Nat.le_of_ble_eq_true rfl); (case c => k_asm); (case jd => show _ < _; dsimp only [Around.deeper, Around.in1]; omega); (case ju => show _ < _; dsimp only [Around.deeper, Around.in1]; omega)); k_dflt (intro v' h' tk' hk hf' ⟨d', o', e, hd, hlo, hl, hdo⟩ F' N'; subst e; have l1 := hf' _ hd; replace N' := news_add N' hl l1; clear hl hk hf'; obtain ⟨_, _, l1⟩ := l1; (try dsimp only [AllNe] at l1); (try dsimp only [merged, List.foldl] at hdo); (try kob_lit)); (try dsimp only)))
set_option maxHeartbeats 4000000 in
theorem made1 {tk0 : Tok} {v : Value} {ns : List Int} (H : Handed s.heap v ns) (hr : ∀ n ∈ ns, 0 ≤ n ∧ n ≤ 127) (hn : ns.length ≤ 6) : Ctr 6 w mean mg mb 391 ⟨[.str (Str.ofString "sysex") tk0], [(Str.ofString "data", v)]⟩ s (Made w s.heap 0 ns) := by
  intro A base outer R hh B X T hdp hun hR
  obtain ⟨_, dp, fr, gd, un⟩ := A
  obtain rfl := hh
  obtain rfl := B.stack
  dsimp only at hdp hun
  refine make_own (fI := 330) X (by k_is) (by k_is) (by k_is) ?_
  intro x dx h' hlt hsub hsz N0
  rw [under_make]
  refine' enterKW (hb := s.heap) (ex := [(Str.ofString "data", v)]) (front := [(Str.ofString "self", .ref x), (Str.ofString "kind", .str (Str.ofString "sysex") tk0), (Str.ofString "skip_checks", .bool false)]) (nm := Str.ofString "args") hsub hsz N0 X T ?k6 ?k7 ?k8 ?kn ?kp ?kk ?kl ?_ ?c2 ?c3 ?c4 ?c5
  case k6 => k_is
  case k7 => k_is
  case k8 => show _ < _; dsimp only; omega
  case kn => exact rfl
  case kp => exact rfl
  case kk => exact fun _ => rfl
  case kl => exact fun _ => locs rfl
  case c2 => rfl
  case c3 => rfl
  case c4 => rfl
  case c5 => decide
  intro D o L' h₁ tk l1 lo hd F N
  k_lt l1
  k_lt2 hlt
  try dsimp only
  k_steps
  all_goals (
    rename Fr _ _ _ _ => Ff
    rename News _ _ _ _ => Nf
    exact ⟨rfl, hR _ _ _ Ff.keep (made_of (Nf (x, instObj 391 dx) (by k_mem)) (Nf (dx, _) (by k_mem)) (Nf (_, _) (by k_mem)) (by k_asm) (by k_asm) (by first | exact IsTup.keeps (by with_reducible assumption) (Fr.keep (by k_asm)) | exact News.isTup (by k_asm) (by k_mem)) (by with_reducible assumption))⟩)
end
end Mine
namespace Mine
theorem filled_LC6 : PySem.Challenge.rw_ae6013_01 = PySem.Challenge.rw_ae6013_01 → hd.heap_39 = hd.heap_39 → True := by
  k_fill
  intro _ _; trivial
local macro_rules | `(tactic| k_room) => `(tactic| ktr_room)
local macro_rules | `(tactic| k_units) => `(tactic| ktr_units)
section
variable {w : World} {mean : ExcName → Option Value} {mg mb : Str → Option Value} {s : Shared}
local macro_rules | `(tactic| walk_at "call builtin:dict.pop") => `(tactic| (k_here; (with_reducible show wpAny _ _ (call (Value.builtin "dict.pop") [Value.ref _, Value.str _ _, _]) _ _ _); k_dflt (refine' pop_absent (knd := PySem.strKind _ _) ?N ?m ?d ?o (strKind_is _ _ _ _) (by rfl) (PySem.F.args_dict_pop_3 _ _ _) ?l ?_; (case N => k_asm); (case m => k_mem); (case d => k_asm); (case o => k_asm); (case l => rfl))))
local macro_rules | `(tactic| walk_at "call type:tuple") => `(tactic| (k_here; (with_reducible show wpAny _ _ (call (Value.type "tuple") [_]) _ _ _); k_dflt (refine' tuple_K ?F ?N ?H ?hh ?hn ?_ ?_; (case F => k_asm); (case N => k_asm); (case H => with_reducible assumption); (case hh => rfl); (case hn => with_reducible assumption)); all_goals (first | (with_reducible intro t vs h' tk F' N' l1 hi; (try k_lt l1)) | (with_reducible intro t vs e ht hi))))
local macro_rules | `(tactic| k_enter) => `(tactic| ((with_reducible show codeAny _ _ (Code.call (Value.ref 170) _) _ _); k_dflt (refine' Ctr.use (k := 4) (check_msg_spec ?a ?b ?c ?d) ?e ?f ?g ?h ?i rfl rfl rfl rfl ?jd ?ju ?_; (case e => k_asm); (case f => k_asm); (case g => k_asm); (case h => k_asm); (case i => k_asm); (case a => exact kda_dict (by k_asm) (by k_mem) (by k_asm)); (case b => k_asm); (case c => (first | exact Handed.tuple (IsTup.keeps (by with_reducible assumption) (Fr.keep (by k_asm))) (by with_reducible assumption) | exact Handed.tuple (News.isTup (by k_asm) (by k_mem)) (by with_reducible assumption))); (case d => with_reducible assumption); (case jd => show _ < _; dsimp only [Around.deeper, Around.in1]; omega); (case ju => show _ < _; dsimp only [Around.deeper, Around.in1]; omega)); k_dflt (intro v' h' tk' hk hf' e F' N'; subst e; clear hk hf'); (try dsimp only)))
local macro_rules | `(tactic| k_enter) => `(tactic| ((with_reducible show codeAny _ _ (Code.call (Value.ref 93) _) _ _); k_dflt (refine' Ctr.use (k := 1) (make_spec ?a ?b ?c) ?e ?f ?g ?h ?i rfl rfl rfl rfl ?jd ?ju ?_; (case e => k_asm); (case f => k_asm); (case g => k_asm); (case h => k_asm); (case i => k_asm); (case a => exact kda_dict (by k_asm) (by k_mem) (by k_asm)); (case b => exact Nat.le_of_ble_eq_true rfl); (case c => k_asm); (case jd => show _ < _; dsimp only [Around.deeper, Around.in1]; omega); (case ju => show _ < _; dsimp only [Around.deeper, Around.in1]; omega)); k_dflt (intro v' h' tk' hk hf' ⟨d', o', e, hd, hlo, hl, hdo⟩ F' N'; subst e; have l1 := hf' _ hd; replace N' := news_add N' hl l1; clear hl hk hf'; obtain ⟨_, _, l1⟩ := l1; (try dsimp only [AllNe] at l1); (try dsimp only [merged, List.foldl] at hdo); (try kob_lit)); (try dsimp only)))
set_option maxHeartbeats 4000000 in
theorem made2 {tk0 tt : Tok} {tm : Int} {v : Value} {ns : List Int} (H : Handed s.heap v ns) (hr : ∀ n ∈ ns, 0 ≤ n ∧ n ≤ 127) (hn : ns.length ≤ 6) : Ctr 6 w mean mg mb 391 ⟨[.str (Str.ofString "sysex") tk0], [(Str.ofString "data", v), (Str.ofString "time", .int tm tt)]⟩ s (Made w s.heap tm ns) := by
  intro A base outer R hh B X T hdp hun hR
  obtain ⟨_, dp, fr, gd, un⟩ := A
  obtain rfl := hh
  obtain rfl := B.stack
  dsimp only at hdp hun
  refine make_own (fI := 330) X (by k_is) (by k_is) (by k_is) ?_
  intro x dx h' hlt hsub hsz N0
  rw [under_make]
  refine' enterKW (hb := s.heap) (ex := [(Str.ofString "data", v), (Str.ofString "time", .int tm tt)]) (front := [(Str.ofString "self", .ref x), (Str.ofString "kind", .str (Str.ofString "sysex") tk0), (Str.ofString "skip_checks", .bool false)]) (nm := Str.ofString "args") hsub hsz N0 X T ?k6 ?k7 ?k8 ?kn ?kp ?kk ?kl ?_ ?c2 ?c3 ?c4 ?c5
  case k6 => k_is
  case k7 => k_is
  case k8 => show _ < _; dsimp only; omega
  case kn => exact rfl
  case kp => exact rfl
  case kk => exact fun _ => rfl
  case kl => exact fun _ => locs rfl
  case c2 => rfl
  case c3 => rfl
  case c4 => rfl
  case c5 => decide
  intro D o L' h₁ tk l1 lo hd F N
  k_lt l1
  k_lt2 hlt
  try dsimp only
  k_steps
  all_goals (
    rename Fr _ _ _ _ => Ff
    rename News _ _ _ _ => Nf
    exact ⟨rfl, hR _ _ _ Ff.keep (made_of (Nf (x, instObj 391 dx) (by k_mem)) (Nf (dx, _) (by k_mem)) (Nf (_, _) (by k_mem)) (by k_asm) (by k_asm) (by first | exact IsTup.keeps (by with_reducible assumption) (Fr.keep (by k_asm)) | exact News.isTup (by k_asm) (by k_mem)) (by with_reducible assumption))⟩)
set_option maxHeartbeats 4000000 in
theorem made3 {tk0 : Tok} {v : Value} {ns : List Int} (H : Handed s.heap v ns) (hr : ∀ n ∈ ns, 0 ≤ n ∧ n ≤ 127) (hn : ns.length ≤ 6) : Ctr 6 w mean mg mb 391 ⟨[], [(Str.ofString "type", .str (Str.ofString "sysex") tk0), (Str.ofString "data", v)]⟩ s (Made w s.heap 0 ns) := by
  intro A base outer R hh B X T hdp hun hR
  obtain ⟨_, dp, fr, gd, un⟩ := A
  obtain rfl := hh
  obtain rfl := B.stack
  dsimp only at hdp hun
  refine make_own (fI := 330) X (by k_is) (by k_is) (by k_is) ?_
  intro x dx h' hlt hsub hsz N0
  rw [under_make]
  refine' enterKW (hb := s.heap) (ex := [(Str.ofString "type", .str (Str.ofString "sysex") tk0), (Str.ofString "data", v)]) (front := [(Str.ofString "self", .ref x), (Str.ofString "kind", .none), (Str.ofString "skip_checks", .bool false)]) (nm := Str.ofString "args") hsub hsz N0 X T ?k6 ?k7 ?k8 ?kn ?kp ?kk ?kl ?_ ?c2 ?c3 ?c4 ?c5
  case k6 => k_is
  case k7 => k_is
  case k8 => show _ < _; dsimp only; omega
  case kn => exact rfl
  case kp => exact rfl
  case kk => exact fun _ => rfl
  case kl => exact fun _ => locs rfl
  case c2 => rfl
  case c3 => rfl
  case c4 => rfl
  case c5 => decide
  intro D o L' h₁ tk l1 lo hd F N
  k_lt l1
  k_lt2 hlt
  try dsimp only
  k_steps
  all_goals (
    rename Fr _ _ _ _ => Ff
    rename News _ _ _ _ => Nf
    exact ⟨rfl, hR _ _ _ Ff.keep (made_of (Nf (x, instObj 391 dx) (by k_mem)) (Nf (dx, _) (by k_mem)) (Nf (_, _) (by k_mem)) (by k_asm) (by k_asm) (by first | exact IsTup.keeps (by with_reducible assumption) (Fr.keep (by k_asm)) | exact News.isTup (by k_asm) (by k_mem)) (by with_reducible assumption))⟩)
end
end Mine
namespace Mine
theorem filled_LC7 : PySem.Challenge.rw_ae6013_01 = PySem.Challenge.rw_ae6013_01 → hd.heap_39 = hd.heap_39 → True := by
  k_fill
  intro _ _; trivial
local macro_rules | `(tactic| k_room) => `(tactic| ktr_room)
local macro_rules | `(tactic| k_units) => `(tactic| ktr_units)
section
variable {w : World} {mean : ExcName → Option Value} {mg mb : Str → Option Value} {s : Shared}
local macro_rules | `(tactic| walk_at "call builtin:dict.pop") => `(tactic| (k_here; (with_reducible show wpAny _ _ (call (Value.builtin "dict.pop") [Value.ref _, Value.str _ _, _]) _ _ _); k_dflt (refine' pop_absent (knd := PySem.strKind _ _) ?N ?m ?d ?o (strKind_is _ _ _ _) (by rfl) (PySem.F.args_dict_pop_3 _ _ _) ?l ?_; (case N => k_asm); (case m => k_mem); (case d => k_asm); (case o => k_asm); (case l => rfl))))
local macro_rules | `(tactic| walk_at "call type:tuple") => `(tactic| (k_here; (with_reducible show wpAny _ _ (call (Value.type "tuple") [_]) _ _ _); k_dflt (refine' tuple_K ?F ?N ?H ?hh ?hn ?_ ?_; (case F => k_asm); (case N => k_asm); (case H => with_reducible assumption); (case hh => rfl); (case hn => with_reducible assumption)); all_goals (first | (with_reducible intro t vs h' tk F' N' l1 hi; (try k_lt l1)) | (with_reducible intro t vs e ht hi))))
local macro_rules | `(tactic| k_enter) => `(tactic| ((with_reducible show codeAny _ _ (Code.call (Value.ref 170) _) _ _); k_dflt (refine' Ctr.use (k := 4) (check_msg_spec ?a ?b ?c ?d) ?e ?f ?g ?h ?i rfl rfl rfl rfl ?jd ?ju ?_; (case e => k_asm); (case f => k_asm); (case g => k_asm); (case h => k_asm); (case i => k_asm); (case a => exact kda_dict (by k_asm) (by k_mem) (by k_asm)); (case b => k_asm); (case c => (first | exact Handed.tuple (IsTup.keeps (by with_reducible assumption) (Fr.keep (by k_asm))) (by with_reducible assumption) | exact Handed.tuple (News.isTup (by k_asm) (by k_mem)) (by with_reducible assumption))); (case d => with_reducible assumption); (case jd => show _ < _; dsimp only [Around.deeper, Around.in1]; omega); (case ju => show _ < _; dsimp only [Around.deeper, Around.in1]; omega)); k_dflt (intro v' h' tk' hk hf' e F' N'; subst e; clear hk hf'); (try dsimp only)))
local macro_rules | `(tactic| k_enter) => `(tactic| ((with_reducible show codeAny _ _ (Code.call (Value.ref 93) _) _ _); k_dflt (refine' Ctr.use (k := 1) (make_spec ?a ?b ?c) ?e ?f ?g ?h ?i rfl rfl rfl rfl ?jd ?ju ?_; (case e => k_asm); (case f => k_asm); (case g => k_asm); (case h => k_asm); (case i => k_asm); (case a => exact kda_dict (by k_asm) (by k_mem) (by k_asm)); (case b => exact Nat.le_of_ble_eq_true rfl); (case c => k_asm); (case jd => show _ < _; dsimp only [Around.deeper, Around.in1]; omega); (case ju => show _ < _; dsimp only [Around.deeper, Around.in1]; omega)); k_dflt (intro v' h' tk' hk hf' ⟨d', o', e, hd, hlo, hl, hdo⟩ F' N'; subst e; have l1 := hf' _ hd; replace N' := news_add N' hl l1; clear hl hk hf'; obtain ⟨_, _, l1⟩ := l1; (try dsimp only [AllNe] at l1); (try dsimp only [merged, List.foldl] at hdo); (try kob_lit)); (try dsimp only)))
set_option maxHeartbeats 4000000 in
theorem made4 {tk0 : Tok}  : Ctr 6 w mean mg mb 391 ⟨[.str (Str.ofString "sysex") tk0], []⟩ s (Made w s.heap 0 []) := by
  intro A base outer R hh B X T hdp hun hR
  obtain ⟨_, dp, fr, gd, un⟩ := A
  obtain rfl := hh
  obtain rfl := B.stack
  dsimp only at hdp hun
  have H : Handed s.heap (.ref 86) [] := .tuple (vs := []) (tupK X (by k_is)) .nil
  have hr : ∀ n ∈ ([] : List Int), 0 ≤ n ∧ n ≤ 127 := fun _ h => nomatch h
  have hn : ([] : List Int).length ≤ 6 := Nat.zero_le _
  refine make_own (fI := 330) X (by k_is) (by k_is) (by k_is) ?_
  intro x dx h' hlt hsub hsz N0
  rw [under_make]
  refine' enterKW (hb := s.heap) (ex := []) (front := [(Str.ofString "self", .ref x), (Str.ofString "kind", .str (Str.ofString "sysex") tk0), (Str.ofString "skip_checks", .bool false)]) (nm := Str.ofString "args") hsub hsz N0 X T ?k6 ?k7 ?k8 ?kn ?kp ?kk ?kl ?_ ?c2 ?c3 ?c4 ?c5
  case k6 => k_is
  case k7 => k_is
  case k8 => show _ < _; dsimp only; omega
  case kn => exact rfl
  case kp => exact rfl
  case kk => exact fun _ => rfl
  case kl => exact fun _ => locs rfl
  case c2 => rfl
  case c3 => rfl
  case c4 => rfl
  case c5 => decide
  intro D o L' h₁ tk l1 lo hd F N
  k_lt l1
  k_lt2 hlt
  try dsimp only
  k_steps
  all_goals (
    rename Fr _ _ _ _ => Ff
    rename News _ _ _ _ => Nf
    exact ⟨rfl, hR _ _ _ Ff.keep (made_of (Nf (x, instObj 391 dx) (by k_mem)) (Nf (dx, _) (by k_mem)) (Nf (_, _) (by k_mem)) (by k_asm) (by k_asm) (by first | exact IsTup.keeps (by with_reducible assumption) (Fr.keep (by k_asm)) | exact News.isTup (by k_asm) (by k_mem)) (by with_reducible assumption))⟩)
set_option maxHeartbeats 4000000 in
theorem made5 {tk0 tt : Tok} {tm : Int} {v : Value} {ns : List Int} (H : Handed s.heap v ns) (hr : ∀ n ∈ ns, 0 ≤ n ∧ n ≤ 127) (hn : ns.length ≤ 6) : Ctr 6 w mean mg mb 391 ⟨[], [(Str.ofString "skip_checks", .bool false), (Str.ofString "type", .str (Str.ofString "sysex") tk0), (Str.ofString "time", .int tm tt), (Str.ofString "data", v)]⟩ s (Made w s.heap tm ns) := by
  intro A base outer R hh B X T hdp hun hR
  obtain ⟨_, dp, fr, gd, un⟩ := A
  obtain rfl := hh
  obtain rfl := B.stack
  dsimp only at hdp hun
  refine make_own (fI := 330) X (by k_is) (by k_is) (by k_is) ?_
  intro x dx h' hlt hsub hsz N0
  rw [under_make]
  refine' enterKW (hb := s.heap) (ex := [(Str.ofString "type", .str (Str.ofString "sysex") tk0), (Str.ofString "time", .int tm tt), (Str.ofString "data", v)]) (front := [(Str.ofString "self", .ref x), (Str.ofString "kind", .none), (Str.ofString "skip_checks", .bool false)]) (nm := Str.ofString "args") hsub hsz N0 X T ?k6 ?k7 ?k8 ?kn ?kp ?kk ?kl ?_ ?c2 ?c3 ?c4 ?c5
  case k6 => k_is
  case k7 => k_is
  case k8 => show _ < _; dsimp only; omega
  case kn => exact rfl
  case kp => exact rfl
  case kk => exact fun _ => rfl
  case kl => exact fun _ => locs rfl
  case c2 => rfl
  case c3 => rfl
  case c4 => rfl
  case c5 => decide
  intro D o L' h₁ tk l1 lo hd F N
  k_lt l1
  k_lt2 hlt
  try dsimp only
  k_steps
  all_goals (
    rename Fr _ _ _ _ => Ff
    rename News _ _ _ _ => Nf
    exact ⟨rfl, hR _ _ _ Ff.keep (made_of (Nf (x, instObj 391 dx) (by k_mem)) (Nf (dx, _) (by k_mem)) (Nf (_, _) (by k_mem)) (by k_asm) (by k_asm) (by first | exact IsTup.keeps (by with_reducible assumption) (Fr.keep (by k_asm)) | exact News.isTup (by k_asm) (by k_mem)) (by with_reducible assumption))⟩)
end
end Mine
namespace Mine
theorem filled_LC8 : PySem.Challenge.rw_ae6013_01 = PySem.Challenge.rw_ae6013_01 → hd.heap_39 = hd.heap_39 → True := by
  k_fill
  intro _ _; trivial
local macro_rules | `(tactic| k_room) => `(tactic| ktr_room)
local macro_rules | `(tactic| k_units) => `(tactic| ktr_units)
section
variable {w : World} {mean : ExcName → Option Value} {mg mb : Str → Option Value} {s : Shared}
local macro_rules | `(tactic| k_inst) => `(tactic| exact Msg.inst (Msg.keeps (by with_reducible assumption) (Fr.keep (by k_asm))))
local macro_rules | `(tactic| walk_at "handedOut") => `(tactic| (k_here; refine handed_on rfl ?_))
theorem Made.old {w : World} {h₀ h h' : Heap} {tm : Int} {ns : List Int} {u : Value} (M : Made w h tm ns u h') (hk : ∀ b o, h₀.get? b = some o → h.get? b = some o) : Made w h₀ tm ns u h' := by
  obtain ⟨a, dx, f, t, n, hs, tf, t1, t2, vs, e, h1, h2, h3, M⟩ := M
  have up : ∀ x, h.get? x = none → h₀.get? x = none := fun x e => by
    cases q : h₀.get? x with
    | none => rfl
    | some o => rw [hk _ _ q] at e; cases e
  exact ⟨a, dx, f, t, n, hs, tf, t1, t2, vs, e, up _ h1, up _ h2, up _ h3, M⟩
local macro_rules | `(tactic| walk_at "call ref") => `(tactic| (k_here; (with_reducible show wpAny _ _ (call (Value.ref 391) _ _) _ _ _); refine wpAny_call ?_; k_enter))
theorem put_fields {P : Params} {hs : Int} {tf tk : Tok} {f v : Value} {n : Nat} : (putL (Str.ofString "fields") (PyData.keyHash P (Str.ofString "fields")) (.str (Str.ofString "fields") tk) v [⟨hs, .str (Str.ofString "fields") tf, f⟩], putN (Str.ofString "fields") [⟨hs, .str (Str.ofString "fields") tf, f⟩] n) = ([⟨hs, .str (Str.ofString "fields") tf, v⟩], n) := by
  have e : (Value.str (Str.ofString "fields") tf).isStr (Str.ofString "fields") = true := by show (Str.ofString "fields" == Str.ofString "fields") = true; simp
  simp [putL, putN, e]
theorem get_fields {hs : Int} {tf : Tok} {f : Value} : (getL (Str.ofString "fields") [⟨hs, .str (Str.ofString "fields") tf, f⟩]).isSome = true := by
  have e : (Value.str (Str.ofString "fields") tf).isStr (Str.ofString "fields") = true := by show (Str.ofString "fields" == Str.ofString "fields") = true; simp
  simp [getL, e]
local macro_rules | `(tactic| walk_at "setAttr ref") => `(tactic| (k_here; k_dflt (refine' set_dict ?k1 ?k2 ?k3 ?k4 ?k5 ?k6 ?k7 ?k8 ?k9 ?k10 ?k11 ?k12 ?k13 ?_; (case k1 => k_asm); (case k2 => k_asm); (case k3 => k_asm); (case k4 => k_inst); (case k5 => exact rfl); (case k6 => k_is); (case k7 => k_is); (case k8 => k_is); (case k9 => k_is); (case k10 => exact get_fields); (case k11 => exact put_fields); (case k12 => k_upd); (case k13 => exact Nat.le_of_ble_eq_true rfl); k_whole; intro h' F' N')))
theorem truthy_led {w : World} {A : Around} {E : Value → Shared → Prop} {s : Shared} {h₀ : Heap} {L d : Addr} {news : List (Addr × Obj)} {o : Obj} {kvs : List (Str × Value)} {b : Bool} {Q : Bool → Shared → Prop} (N : News h₀ L s.heap news) (hp : (d, o) ∈ news) (hd : o.IsDictOf (strKind P w) kvs) (lo : (d == sysModules) = false) (hfit : kvs.length ≤ 1000) (hb : (!kvs.isEmpty) = b)
    (h : ∀ tk, Q b { s with toks := tk }) : wpAny (model P w) A (truthy (.ref d)) Q E s :=
  wpAny_truthy_dict lo (kda_dict N hp hd) (by omega) (by rw [hb]; exact h _)
local macro_rules | `(tactic| walk_at "truthy ref") => `(tactic| (k_here; k_dflt (refine' truthy_led ?N ?m ?d ?o ?z ?b ?_; (case N => k_asm); (case m => k_mem); (case d => k_asm); (case o => k_asm); (case z => exact Nat.le_of_ble_eq_true rfl); (case b => first | exact (rfl : _ = true) | exact (rfl : _ = false))); intro tk'))
local macro_rules | `(tactic| k_enter) => `(tactic| ((with_reducible show codeAny _ _ (Code.call (Value.ref 391) _) _ _); k_dflt (refine' Ctr.use (k := 6) (made4) ?e ?f ?g ?h ?i rfl rfl rfl rfl ?jd ?ju ?_; (case e => k_asm); (case f => k_asm); (case g => k_asm); (case h => k_asm); (case i => k_asm);  (case jd => show _ < _; dsimp only [Around.deeper, Around.in1]; omega); (case ju => show _ < _; dsimp only [Around.deeper, Around.in1]; omega)); k_dflt (intro v' h' tk' hk hf' ⟨a', dx', f', t', n', hs', tf', t1', t2', vs', e', ha', hdx', hf2', M'⟩ F' N'; subst e'; have l1 := hf' _ hdx'; replace N' := news_add N' (Msg.dic M') l1; obtain ⟨_, _, l1⟩ := l1; (try dsimp only [AllNe] at l1); have l2 := hf' _ ha'; have l3 : @Ne Nat dx' a' := msg_ne M'; replace N' := news_add N' (Msg.obj M') ⟨l2.1, l2.2.1, ⟨l3, l2.2.2⟩⟩; obtain ⟨_, _, l2⟩ := l2; (try dsimp only [AllNe] at l2); clear hk hf'); (try dsimp only)))
local macro_rules | `(tactic| walk_at "subscriptTail") => `(tactic| (k_here; (with_reducible show wpAny _ _ (subscriptTail _ _ (Value.ref _) (Value.str _ _)) _ _ _); k_dflt (refine od_item (knd := PySem.strKind _ _) (by k_asm) (by with_reducible assumption) (strKind_is _ _ _ _) (by rfl) ?_)))
local macro_rules | `(tactic| walk_at "getMethod ref") => `(tactic| (k_here; (with_reducible show wpAny _ _ (getMethod (Value.ref _) (Str.ofString "copy") _) _ _ _); k_dflt (refine od_method (knd := PySem.strKind _ _) PySem.F.slot_dict_copy PySem.F.type_dict_copy (by k_asm) (by with_reducible assumption) ?_)))
local macro_rules | `(tactic| walk_at "call builtin:dict.copy") => `(tactic| (k_here; k_dflt (refine dict_copy_lo (by k_asm) (by k_asm) (od_dict (by k_asm) (by with_reducible assumption)) (by k_asm) (Top.nolimit (by k_asm)) (by kob_size) ?_; intro d' h' o' F' N' l1 hd' lo'; (try k_lt l1))))
local macro_rules | `(tactic| k_enter) => `(tactic| ((with_reducible show codeAny _ _ (Code.call (Value.ref 238) _) _ _); k_dflt (refine' Ctr.use (k := 1) (type_spec ?a) ?e ?f ?g ?h ?i rfl rfl rfl rfl ?jd ?ju ?_; (case e => k_asm); (case f => k_asm); (case g => k_asm); (case h => k_asm); (case i => k_asm); (case a => exact Msg.keeps (by with_reducible assumption) (Fr.keep (by k_asm))); (case jd => show _ < _; dsimp only [Around.deeper, Around.in1]; omega); (case ju => show _ < _; dsimp only [Around.deeper, Around.in1]; omega)); k_dflt (intro v h' tk hk hf' e F' N'; subst e; clear hk hf'); (try dsimp only)))
set_option maxHeartbeats 4000000 in
theorem from_dict_spec {d : Addr} {tk0 : Tok} {v : Value} {ns : List Int} (lo : (d == sysModules) = false) (hd : s.heap.DictOf (strKind P w) d [(Str.ofString "type", .str (Str.ofString "sysex") tk0), (Str.ofString "data", v)]) (H : Handed s.heap v ns) (hr : ∀ n ∈ ns, 0 ≤ n ∧ n ≤ 127) (hn : ns.length ≤ 6) :
    Ctr 7 w mean mg mb 282 ⟨[.ref 391, .ref d], []⟩ s (Made w s.heap 0 ns) := by
  intro A base outer R hh B X T hdp hun hR
  obtain ⟨_, dp, fr, gd, un⟩ := A
  obtain rfl := hh
  obtain rfl := B.stack
  dsimp only at hdp hun
  refine' enterK (binds := [(Str.ofString "cls", .ref 391), (Str.ofString "data", .ref d)]) B X T ?k6 ?k7 ?k8 ?k9 ?kB ?_ ?c2 ?c3 ?c4 ?c5
  case k6 => k_is
  case k7 => k_is
  case k8 => ktr_room
  case k9 => exact BindsTo.of_eq rfl
  case kB => exact locs rfl
  case c2 => rfl
  case c3 => rfl
  case c4 => rfl
  case c5 => decide
  intro L' h₁ F N
  try dsimp only
  refine wpAny_execs_cons ?_
  rw [exec_Return_some]
  refine wpAny_bind (wpAny_standAt (wpAny_bind ?_))
  refine wpAny_Call_Name_kw (ld F rfl ?_)
  refine' cls_star0 F N X ?k ?v ?d ?l ?z rfl rfl (by decide) ?_
  case k => k_is
  case v => rfl
  case d => assumption
  case l => assumption
  case z => rw [sizeLine_eq]; exact Nat.le_of_ble_eq_true rfl
  intro h' F' N'
  refine wpAny_call ?_
  refine' Ctr.use (k := 6) (made3 (H.keeps F'.keep) hr hn) B F' N' X T rfl rfl rfl rfl ?jd ?ju ?_
  case jd => show _ < _; dsimp only [Around.deeper, Around.in1]; omega
  case ju => show _ < _; dsimp only [Around.deeper, Around.in1]; omega
  intro v' h'' tk' hk hf' hm F'' N''
  exact wpAny_pure (hR _ _ _ F''.keep (hm.old F'.keep))
set_option maxHeartbeats 4000000 in
theorem copy0_spec {a dx f t : Addr} {n : Nat} {hs : Int} {tf t1 t2 : Tok} {tm : Int} {vs : List Value} {ns : List Int} (M : Msg w s.heap a dx f t n hs tf t1 t2 tm vs ns) :
    Ctr 7 w mean mg mb 346 ⟨[.ref a], []⟩ s (Made w s.heap tm ns) := by
  intro A base outer R hh B X T hdp hun hR
  obtain ⟨_, dp, fr, gd, un⟩ := A
  obtain rfl := hh
  obtain rfl := B.stack
  dsimp only at hdp hun
  refine' enterKW (hb := s.heap) (news := []) (ex := []) (front := [(Str.ofString "self", .ref a), (Str.ofString "skip_checks", .bool false)]) (nm := Str.ofString "overrides") (fun _ _ e => e) (Nat.le_refl _) (fun _ h => nomatch h) X T ?k6 ?k7 ?k8 ?kn ?kp ?kk ?kl ?_ ?c2 ?c3 ?c4 ?c5
  case k6 => k_is
  case k7 => k_is
  case k8 => show _ < _; dsimp only; omega
  case kn => exact rfl
  case kp => exact rfl
  case kk => exact fun _ => rfl
  case kl => exact fun _ => locs rfl
  case c2 => rfl
  case c3 => rfl
  case c4 => rfl
  case c5 => decide
  intro D o L' h₁ tk l1 lo hd F N
  have Mf := M.fld
  have Ml := M.low
  try dsimp only
  k_steps
  dsimp only
  rename Fr _ _ _ _ => Ff
  rename News _ _ _ _ => Nf
  exact hR _ _ _ Ff.keep (made_of (Nf (_, instObj 391 _) (by k_mem)) (Nf (_, dictOf [⟨_, .str (Str.ofString "fields") _, .ref _⟩] _) (by k_mem)) (Nf (_, _) (List.Mem.head _)) (by k_asm) (by k_asm) (IsTup.keeps M.tup Ff.keep) M.rowI)
end
end Mine
namespace Mine
theorem filled_LC10 : PySem.Challenge.rw_ae6013_01 = PySem.Challenge.rw_ae6013_01 → hd.heap_39 = hd.heap_39 → True := by
  k_fill
  intro _ _; trivial
local macro_rules | `(tactic| k_room) => `(tactic| ktr_room)
local macro_rules | `(tactic| k_units) => `(tactic| ktr_units)
section
variable {w : World} {mean : ExcName → Option Value} {mg mb : Str → Option Value} {s : Shared}
local macro_rules | `(tactic| k_inst) => `(tactic| exact Msg.inst (Msg.keeps (by with_reducible assumption) (Fr.keep (by k_asm))))
local macro_rules | `(tactic| walk_at "truthy ref") => `(tactic| (k_here; k_dflt (refine' truthy_led ?N ?m ?d ?o ?z ?b ?_; (case N => k_asm); (case m => k_mem); (case d => k_asm); (case o => k_asm); (case z => exact Nat.le_of_ble_eq_true rfl); (case b => first | exact (rfl : _ = true) | exact (rfl : _ = false))); intro tk'))
local macro_rules | `(tactic| walk_at "getMethod ref") => `(tactic| (k_here; (with_reducible show wpAny _ _ (getMethod (Value.ref _) (Str.ofString "copy") _) _ _ _); k_dflt (refine od_method (knd := PySem.strKind _ _) PySem.F.slot_dict_copy PySem.F.type_dict_copy (by k_asm) (by with_reducible assumption) ?_)))
local macro_rules | `(tactic| walk_at "getMethod ref") => `(tactic| (k_here; (with_reducible show wpAny _ _ (getMethod (Value.ref _) (Str.ofString "update") _) _ _ _); k_dflt (refine kob_method (knd := PySem.strKind _ _) PySem.F.slot_dict_update BA.type_dict_update (by k_asm) (by k_mem) (by k_asm) ?_)))
local macro_rules | `(tactic| walk_at "call builtin:dict.copy") => `(tactic| (k_here; k_dflt (refine dict_copy_lo (by k_asm) (by k_asm) (od_dict (by k_asm) (by with_reducible assumption)) (by k_asm) (Top.nolimit (by k_asm)) (by kob_size) ?_; intro d' h' o' F' N' l1 hd' lo'; (try k_lt l1))))
theorem dict_update_led {w : World} {A : Around} {E : Value → Shared → Prop} {s : Shared} {h₀ : Heap} {L d ov : Addr} {m : Str → Option Value} {news : List (Addr × Obj)} {o oo : Obj} {g : Obj → List (Addr × Obj)} {kvs more : List (Str × Value)} {Q : Value → Shared → Prop} (F : Fr h₀ L s.heap m) (N : News h₀ L s.heap news) (U : UpdF d o news g) (hd : o.IsDictOf (strKind P w) kvs) (hp : (ov, oo) ∈ news) (ho : oo.IsDictOf (strKind P w) more) (lo : (ov == sysModules) = false) (hne : d ≠ ov) (hsz : kvs.length + more.length ≤ sizeLine)
    (h : ∀ h' o', Fr h₀ L h' m → News h₀ L h' (g o') → o'.IsDictOf (strKind P w) (merged kvs more) → Q .none { s with heap := h' }) :
    wpAny (model P w) A (call (.builtin "dict.update") [.ref d, .ref ov]) Q E s := by
  obtain ⟨pre, post, rfl, hg, a, b⟩ := U.split
  have hm := N (d, o) (List.mem_append_right _ (.head _))
  have hD : s.heap.DictOf (strKind P w) d kvs := Heap.dictOf_iff.mpr ⟨o, hm.1, hd⟩
  refine call_meetsIn PySem.F.slot_dict_update hD.typeIs PySem.F.entry_dict_update (PySem.F.args_dict_update_2 _ _) (meets_dict_update (strKind P w) d ov hne lo) ⟨kvs, more, hD, kda_dict N hp ho, hsz, fun h' hmm _ hs => ?_⟩
  obtain ⟨o', ho', hd'⟩ := Heap.dictOf_iff.mp hmm
  exact h h' o' (F.change hs hm.2.1 hm.2.2) (hg o' ▸ N.setIn a b hs ho') hd'
local macro_rules | `(tactic| walk_at "call builtin:dict.update") => `(tactic| (k_here; (with_reducible show wpAny _ _ (call (Value.builtin "dict.update") [Value.ref _, Value.ref _]) _ _ _); k_dflt (refine' dict_update_led ?F ?N ?U ?d ?p ?o ?l ?q ?z ?_; (case F => k_asm); (case N => k_asm); (case U => k_updF); (case d => k_asm); (case p => k_mem); (case o => k_asm); (case l => k_asm); (case q => (refine neN ?_; (try dsimp only); omega)); (case z => rw [sizeLine_eq]; exact Nat.le_of_ble_eq_true rfl)); intro h' o' F' N' hd'; (try dsimp only [merged, List.foldl] at hd'); (try kob_lit); (try dsimp only at N')))
local macro_rules | `(tactic| k_enter) => `(tactic| ((with_reducible show codeAny _ _ (Code.call (Value.ref 170) _) _ _); k_dflt (refine' Ctr.use (k := 4) (check_msg_spec ?a ?b ?c ?d) ?e ?f ?g ?h ?i rfl rfl rfl rfl ?jd ?ju ?_; (case e => k_asm); (case f => k_asm); (case g => k_asm); (case h => k_asm); (case i => k_asm); (case a => exact kda_dict (by k_asm) (by k_mem) (by k_asm)); (case b => k_asm); (case c => exact Handed.barr (by with_reducible assumption) (News.get (by k_asm) (by k_mem))); (case d => with_reducible assumption); (case jd => show _ < _; dsimp only [Around.deeper, Around.in1]; omega); (case ju => show _ < _; dsimp only [Around.deeper, Around.in1]; omega)); k_dflt (intro v' h' tk' hk hf' e F' N'; subst e; clear hk hf'); (try dsimp only)))
theorem made5' {s' : Shared} {tk0 tt : Tok} {tm : Int} {v : Value} {ns : List Int} (H : Handed s'.heap v ns) (hr : ∀ n ∈ ns, 0 ≤ n ∧ n ≤ 127) (hn : ns.length ≤ 6) (hk : ∀ b o, s.heap.get? b = some o → s'.heap.get? b = some o) : Ctr 6 w mean mg mb 391 ⟨[], [(Str.ofString "skip_checks", .bool false), (Str.ofString "type", .str (Str.ofString "sysex") tk0), (Str.ofString "time", .int tm tt), (Str.ofString "data", v)]⟩ s' (Made w s.heap tm ns) :=
  fun A base outer R a b c d e f g => made5 H hr hn A base outer R a b c d e f fun v h' tk hk' hm => g v h' tk hk' (hm.old hk)
local macro_rules | `(tactic| walk_at "call ref") => `(tactic| (k_here; (with_reducible show wpAny _ _ (call (Value.ref 391) _ _) _ _ _); refine wpAny_call ?_; k_enter))
local macro_rules | `(tactic| k_enter) => `(tactic| ((with_reducible show codeAny _ _ (Code.call (Value.ref 391) _) _ _); k_dflt (refine' Ctr.use (k := 6) (made5' ?a ?b ?c ?d) ?e ?f ?g ?h ?i rfl rfl rfl rfl ?jd ?ju ?_; (case e => k_asm); (case f => k_asm); (case g => k_asm); (case h => k_asm); (case i => k_asm); (case a => exact Handed.barr (by with_reducible assumption) (News.get (by k_asm) (by k_mem))); (case b => with_reducible assumption); (case c => with_reducible assumption); (case d => exact Fr.keep (by k_asm)); (case jd => show _ < _; dsimp only [Around.deeper, Around.in1]; omega); (case ju => show _ < _; dsimp only [Around.deeper, Around.in1]; omega)); k_dflt (intro v' h' tk' hk hf' hm F' N'); (try dsimp only)))
variable {a dx f t : Addr} {n : Nat} {hs : Int} {tf t1 t2 : Tok} {tm : Int} {vs : List Value} {ns ms : List Int}
set_option maxHeartbeats 4000000 in
theorem copyG_spec {v : Value} (M : Msg w s.heap a dx f t n hs tf t1 t2 tm vs ms) (H : Handed s.heap v ns) (hr : ∀ n ∈ ns, 0 ≤ n ∧ n ≤ 127) (hn : ns.length ≤ 6) :
    CtrG 8 w mean mg mb 346 ⟨[.ref a], [(Str.ofString "data", v)]⟩ s (Made w s.heap tm ns) := by
  intro A base outer R hh B X T hdp hun hR
  obtain ⟨_, dp, fr, gd, un⟩ := A
  obtain rfl := hh
  obtain rfl := B.stack
  dsimp only at hdp hun
  refine' enterGW (hb := s.heap) (news := []) (ex := [(Str.ofString "data", v)]) (front := [(Str.ofString "self", .ref a), (Str.ofString "skip_checks", .bool false)]) (nm := Str.ofString "overrides") (fun _ _ e => e) (Nat.le_refl _) (fun _ h => nomatch h) X T ?k6 ?k7 ?k8 ?kn ?kp ?kk ?kl ?_ ?c2 ?c3 ?c4 ?c5
  case k6 => k_is
  case k7 => k_is
  case k8 => show _ < _; dsimp only; omega
  case kn => exact rfl
  case kp => exact rfl
  case kk => exact fun _ => rfl
  case kl => exact fun _ => locs rfl
  case c2 => rfl
  case c3 => rfl
  case c4 => rfl
  case c5 => decide
  intro D o L' h₁ tk l1 lo hd F N
  have Mf := M.fld
  have Ml := M.low
  try dsimp only
  refine G_execs_cons (G_any ?_)
  k_steps
  dsimp only
  refine G_execs_cons (G_any ?_)
  k_steps
  dsimp only
  refine G_execs_cons (G_If (G_any ?_))
  k_steps
  simp only [if_true]
  refine G_execs_cons (G_Assign_Sub (G_Call_Name ?_))
  k_steps
  refine G_callWith_type ?_
  k_steps
  rename Fr _ _ _ _ => Ff
  rename News _ _ _ _ => Nf
  have h256 : ∀ n ∈ ns, 0 ≤ n ∧ n < 256 := fun n h => by have := hr n h; omega
  refine BA.call_G (H.keeps Ff.keep) h256 (by rw [sizeLine_eq]; omega) fun l h' hl hk hb => ?_
  have Fg := fr_keep Ff hk
  have l2 := allNe_of hl Nf
  have Ng := news_add (news_keep Nf hk) hb ⟨none_of_keep Ff hl, ne_local Ff hl, l2⟩
  dsimp only [AllNe] at l2
  clear Ff Nf hk
  k_steps
  dsimp only
  refine G_execs_nil ?_
  dsimp only
  refine G_execs_cons (G_any ?_)
  k_steps
  dsimp only
  refine G_execs_cons (G_any ?_)
  k_steps
  dsimp only
  refine G_execs_cons (G_any ?_)
  k_steps
  dsimp only
  refine G_any ?_
  refine wpAny_execs_cons ?_
  rw [exec_Return_some]
  refine wpAny_bind (wpAny_standAt (wpAny_bind ?_))
  refine wpAny_Call_Name_kw ?_
  rename Fr _ _ _ _ => Fh
  rename News _ _ _ _ => Nh
  refine' name_K Fh ?xk1 ?xk2 ?xk3 ?_
  case xk1 => exact X
  case xk2 => k_asm
  case xk3 => k_is
  refine' cls_star1 Fh Nh X ?xk ?xv ?xw ?xp ?xd ?xl T.nolimit ?xn ?xz rfl rfl (by decide) rfl (by decide) ?_
  case xk => k_is
  case xv => exact rfl
  case xw => exact rfl
  case xp => exact List.Mem.head _
  case xd => k_asm
  case xl => k_asm
  case xn => exact (by decide : [Str.ofString "skip_checks", Str.ofString "type", Str.ofString "time", Str.ofString "data"].Nodup)
  case xz => rw [sizeLine_eq]; exact Nat.le_of_ble_eq_true rfl
  intro h3 tk3 F3 N3
  refine wpAny_call ?_
  refine' Ctr.use (k := 6) (made5' (s := s) (Handed.barr h256 (N3 (l, _) (List.Mem.tail _ (List.Mem.head _))).1) hr hn F3.keep) B F3 N3 X T rfl rfl rfl rfl ?xjd ?xju ?_
  case xjd => show _ < _; dsimp only [Around.deeper, Around.in1]; omega
  case xju => show _ < _; dsimp only [Around.deeper, Around.in1]; omega
  intro v4 h4 tk4 hk4 hf4 hm4 F4 N4
  exact wpAny_pure (hR _ _ _ F4.keep hm4)
end
end Mine
namespace Mine
theorem filled_LC11 : PySem.Challenge.rw_ae6013_01 = PySem.Challenge.rw_ae6013_01 → hd.heap_39 = hd.heap_39 → True := by
  k_fill
  intro _ _; trivial
local macro_rules | `(tactic| k_room) => `(tactic| ktr_room)
local macro_rules | `(tactic| k_units) => `(tactic| ktr_units)
section
variable {w : World} {mean : ExcName → Option Value} {mg mb : Str → Option Value} {s : Shared}
theorem made_any {w : World} {h₀ h : Heap} {L : Addr} {m : Str → Option Value} {news : List (Addr × Obj)} {vs : List (Value × Value)} {Q : Heap → Prop} (F : Fr h₀ L h m) (N : News h₀ L h news) (hbig : h₀.NoLimit) (hk : allStrKeys vs = true) (hn : ((strPairs vs).map (·.1)).Nodup)
    (k : ∀ h' o, Fr h₀ L h' m → News h₀ L h' ((h.objs.size, o) :: news) → (∀ p ∈ news, p.1 < h.objs.size) → (h.objs.size == sysModules) = false → o.IsDictOf (PySem.strKind P w) (strPairs vs) → Q h') :
    ∃ kvs, Carries (PySem.strKind P w) vs kvs ∧ (h.push { cls := .type "dict", data := .dict #[] }).DictOf (PySem.strKind P w) h.objs.size [] ∧
      ∀ h', h'.DictOf (PySem.strKind P w) h.objs.size (merged [] kvs) → Heap.SameBut h.objs.size (h.push { cls := .type "dict", data := .dict #[] }) h' → Q h' :=
  made_str F N hk hn fun h' o F' N' hd => k h' o F' N' (fun p hp => Heap.lt_size (N p hp).1) (F.notModules (modules_low hbig)) hd
local macro_rules | `(tactic| k_inst) => `(tactic| exact Msg.inst (Msg.keeps (by with_reducible assumption) (Fr.keep (by k_asm))))
local macro_rules | `(tactic| walk_at "Exists") => `(tactic| (k_here; refine made_any (by k_asm) (by first | k_asm | exact News.nil) (Top.nolimit (by k_asm)) (by rfl) (of_decide_eq_true (by rfl)) ?_; intro h' o' F' N' l1 lo' hd'; (try k_lt l1)))
local macro_rules | `(tactic| walk_at "call ref") => `(tactic| (k_here; (with_reducible show wpAny _ _ (call (Value.ref 391) _ _) _ _ _); refine wpAny_call ?_; k_enter))
variable {a dx f t : Addr} {n : Nat} {hs : Int} {tf t1 t2 tk0 : Tok} {tm : Int} {vs : List Value} {ns ms : List Int} {v : Value}
section
local macro_rules | `(tactic| k_enter) => `(tactic| ((with_reducible show codeAny _ _ (Code.call (Value.ref 391) _) _ _); k_dflt (refine' Ctr.use (k := 6) (made1 ?a ?b ?c) ?e ?f ?g ?h ?i rfl rfl rfl rfl ?jd ?ju ?_; (case e => k_asm); (case f => k_asm); (case g => k_asm); (case h => k_asm); (case i => k_asm); (case a => exact Handed.keeps (by with_reducible assumption) (Fr.keep (by k_asm))); (case b => with_reducible assumption); (case c => with_reducible assumption); (case jd => show _ < _; dsimp only [Around.deeper, Around.in1]; omega); (case ju => show _ < _; dsimp only [Around.deeper, Around.in1]; omega)); k_dflt (intro v' h' tk' hk hf' hm F' N'; replace hm := Made.old hm (Fr.keep (by k_asm))); (try dsimp only)))
set_option maxHeartbeats 4000000 in
theorem door0 (H : Handed s.heap v ns) (hr : ∀ n ∈ ns, 0 ≤ n ∧ n ≤ 127) (hn : ns.length ≤ 6) : Ctr 7 w mean mg mb 421 ⟨[.int 0 tk0, v, .ref a], []⟩ s (Made w s.heap 0 ns) := by
  intro A base outer R hh B X T hdp hun hR
  obtain ⟨_, dp, fr, gd, un⟩ := A
  obtain rfl := hh
  obtain rfl := B.stack
  dsimp only at hdp hun
  refine' enterK (binds := [(Str.ofString "door", .int 0 tk0), (Str.ofString "handed", v), (Str.ofString "thing", .ref a)]) B X T ?k6 ?k7 ?k8 ?k9 ?kB ?_ ?c2 ?c3 ?c4 ?c5
  case k6 => k_is
  case k7 => k_is
  case k8 => ktr_room
  case k9 => exact BindsTo.of_eq rfl
  case kB => exact locs rfl
  case c2 => rfl
  case c3 => rfl
  case c4 => rfl
  case c5 => decide
  intro L' h₁ F N
  try dsimp only
  k_steps
  rename Fr _ _ _ _ => Ff
  exact hR _ _ _ Ff.keep (by assumption)
end
section
local macro_rules | `(tactic| walk_at "callWith ref") => `(tactic| (k_here; k_dflt (refine' callWith_M ?k1 ?k2 ?k3 ?k4 ?_; (case k1 => k_asm); (case k2 => k_asm); (case k3 => k_mem); (case k4 => k_is); k_whole)))
local macro_rules | `(tactic| k_enter) => `(tactic| ((with_reducible show codeAny _ _ (Code.call (Value.ref 282) _) _ _); k_dflt (refine' Ctr.use (k := 7) (from_dict_spec ?a ?b ?c ?d ?e1) ?e ?f ?g ?h ?i rfl rfl rfl rfl ?jd ?ju ?_; (case e => k_asm); (case f => k_asm); (case g => k_asm); (case h => k_asm); (case i => k_asm); (case a => k_asm); (case b => exact kda_dict (by k_asm) (by k_mem) (by k_asm)); (case c => exact Handed.keeps (by with_reducible assumption) (Fr.keep (by k_asm))); (case d => with_reducible assumption); (case e1 => with_reducible assumption); (case jd => show _ < _; dsimp only [Around.deeper, Around.in1]; omega); (case ju => show _ < _; dsimp only [Around.deeper, Around.in1]; omega)); k_dflt (intro v' h' tk' hk hf' hm F' N'; replace hm := Made.old hm (Fr.keep (by k_asm))); (try dsimp only)))
set_option maxHeartbeats 4000000 in
theorem door1 (H : Handed s.heap v ns) (hr : ∀ n ∈ ns, 0 ≤ n ∧ n ≤ 127) (hn : ns.length ≤ 6) : Ctr 8 w mean mg mb 421 ⟨[.int 1 tk0, v, .ref a], []⟩ s (Made w s.heap 0 ns) := by
  intro A base outer R hh B X T hdp hun hR
  obtain ⟨_, dp, fr, gd, un⟩ := A
  obtain rfl := hh
  obtain rfl := B.stack
  dsimp only at hdp hun
  refine' enterK (binds := [(Str.ofString "door", .int 1 tk0), (Str.ofString "handed", v), (Str.ofString "thing", .ref a)]) B X T ?k6 ?k7 ?k8 ?k9 ?kB ?_ ?c2 ?c3 ?c4 ?c5
  case k6 => k_is
  case k7 => k_is
  case k8 => ktr_room
  case k9 => exact BindsTo.of_eq rfl
  case kB => exact locs rfl
  case c2 => rfl
  case c3 => rfl
  case c4 => rfl
  case c5 => decide
  intro L' h₁ F N
  try dsimp only
  k_steps
  rename Fr _ _ _ _ => Ff
  exact hR _ _ _ Ff.keep (by assumption)
end
end
end Mine
namespace Mine
theorem filled_LC12 : PySem.Challenge.rw_ae6013_01 = PySem.Challenge.rw_ae6013_01 → hd.heap_39 = hd.heap_39 → True := by
  k_fill
  intro _ _; trivial
local macro_rules | `(tactic| k_room) => `(tactic| ktr_room)
local macro_rules | `(tactic| k_units) => `(tactic| ktr_units)
section
variable {w : World} {mean : ExcName → Option Value} {mg mb : Str → Option Value} {s : Shared}
local macro_rules | `(tactic| k_inst) => `(tactic| exact Msg.inst (Msg.keeps (by with_reducible assumption) (Fr.keep (by k_asm))))
local macro_rules | `(tactic| walk_at "Exists") => `(tactic| (k_here; refine made_any (by k_asm) (by first | k_asm | exact News.nil) (Top.nolimit (by k_asm)) (by rfl) (of_decide_eq_true (by rfl)) ?_; intro h' o' F' N' l1 lo' hd'; (try k_lt l1)))
local macro_rules | `(tactic| walk_at "call ref") => `(tactic| (k_here; (with_reducible show wpAny _ _ (call (Value.ref 391) _ _) _ _ _); refine wpAny_call ?_; k_enter))
variable {a dx f t : Addr} {n : Nat} {hs : Int} {tf t1 t2 tk0 : Tok} {tm : Int} {vs : List Value} {ns ms : List Int} {v : Value}
theorem door3 (M : Msg w s.heap a dx f t n hs tf t1 t2 tm vs ms) (H : Handed s.heap v ns) (hr : ∀ n ∈ ns, 0 ≤ n ∧ n ≤ 127) (hn : ns.length ≤ 6) : CtrG 9 w mean mg mb 421 ⟨[.int 3 tk0, v, .ref a], []⟩ s (Made w s.heap tm ns) := by
  intro A base outer R hh B X T hdp hun hR
  obtain ⟨_, dp, fr, gd, un⟩ := A
  obtain rfl := hh
  obtain rfl := B.stack
  dsimp only at hdp hun
  refine' enterG (binds := [(Str.ofString "door", .int 3 tk0), (Str.ofString "handed", v), (Str.ofString "thing", .ref a)]) B X T ?k6 ?k7 ?k8 ?k9 ?kB ?_ ?c2 ?c3 ?c4 ?c5
  case k6 => k_is
  case k7 => k_is
  case k8 => ktr_room
  case k9 => exact BindsTo.of_eq rfl
  case kB => exact locs rfl
  case c2 => rfl
  case c3 => rfl
  case c4 => rfl
  case c5 => decide
  intro L' h₁ F N
  try dsimp only
  refine G_execs_cons (G_any ?_)
  k_steps
  dsimp only
  refine G_execs_cons (G_any ?_)
  k_steps
  dsimp only
  refine G_execs_cons (G_any ?_)
  k_steps
  dsimp only
  refine G_execs_cons (G_Return (G_MethodCall ?_))
  k_steps
  rename Fr _ _ _ _ => Ff
  rename News _ _ _ _ => Nf
  obtain ⟨fo, hfo, fd, hfd⟩ : ∃ o, (hd.heap_39 w.params).lookup 346 = some o ∧ ∃ fd, o.data = .func fd := ⟨_, by k_is, _, rfl⟩
  refine G_callWith_fn (evalArgs_kw2_nil rfl (kwAll_cons (ld Ff rfl (kwAll_nil ⟨⟨Ff.keep _ _ (X 346 _ hfo), hfd⟩, ?_⟩))))
  refine G_call ?_
  refine' CtrG.use (k := 8) (copyG_spec (M.keeps Ff.keep) (H.keeps Ff.keep) hr hn) B Ff Nf X T rfl rfl rfl rfl ?xjd ?xju ?_
  case xjd => show _ < _; dsimp only [Around.deeper, Around.in1]; omega
  case xju => show _ < _; dsimp only [Around.deeper, Around.in1]; omega
  intro v' h' tk' hk hf hm F' N'
  exact hR _ _ _ F'.keep (hm.old Ff.keep)
end
end Mine
namespace Mine
theorem filled_LC13 : PySem.Challenge.rw_ae6013_01 = PySem.Challenge.rw_ae6013_01 → hd.heap_39 = hd.heap_39 → True := by
  k_fill
  intro _ _; trivial
local macro_rules | `(tactic| k_room) => `(tactic| ktr_room)
local macro_rules | `(tactic| k_units) => `(tactic| ktr_units)
section
variable {w : World} {mean : ExcName → Option Value} {mg mb : Str → Option Value} {s : Shared}
local macro_rules | `(tactic| k_inst) => `(tactic| exact Msg.inst (Msg.keeps (by with_reducible assumption) (Fr.keep (by k_asm))))
local macro_rules | `(tactic| walk_at "Exists") => `(tactic| (k_here; refine made_any (by k_asm) (by first | k_asm | exact News.nil) (Top.nolimit (by k_asm)) (by rfl) (of_decide_eq_true (by rfl)) ?_; intro h' o' F' N' l1 lo' hd'; (try k_lt l1)))
local macro_rules | `(tactic| walk_at "call ref") => `(tactic| (k_here; (with_reducible show wpAny _ _ (call (Value.ref 391) _ _) _ _ _); refine wpAny_call ?_; k_enter))
variable {a dx f t : Addr} {n : Nat} {hs : Int} {tf t1 t2 tk0 : Tok} {tm : Int} {vs : List Value} {ns ms : List Int} {v : Value}
theorem msg_ne2 {w : World} {h : Heap} {a dx f t : Addr} {n : Nat} {hs : Int} {tf t1 t2 : Tok} {tm : Int} {vs : List Value} {ns : List Int} (M : Msg w h a dx f t n hs tf t1 t2 tm vs ns) : @Ne Nat dx f := fun e => by
  obtain ⟨o, es, ep, ho, _, hd, _, hp, _⟩ := M.fld
  have h2 := M.dic
  rw [e, ho] at h2
  cases h2
  have hl := hp.length
  cases hd
  simp at hl
theorem msg_ne3 {w : World} {h : Heap} {a dx f t : Addr} {n : Nat} {hs : Int} {tf t1 t2 : Tok} {tm : Int} {vs : List Value} {ns : List Int} (M : Msg w h a dx f t n hs tf t1 t2 tm vs ns) : @Ne Nat a f := fun e => by
  obtain ⟨o, es, ep, ho, _, hd, _, hp, _⟩ := M.fld
  have h2 := M.obj
  rw [e, ho] at h2
  cases h2
  cases hd
theorem tup_back {h g : Heap} {v : Value} {ns : List Int} {t : Addr} {us : List Value} (H : Handed h v ns) (e : v = .ref t) (ht : IsTup g t us.toArray) (hk : ∀ b o, h.get? b = some o → g.get? b = some o) : ∃ vs, IsTup h t (List.toArray vs) ∧ IntsAre vs ns := by
  subst e
  obtain ⟨o, ho, hc, _⟩ := ht
  cases H with
  | list hl _ =>
    obtain ⟨o', ho', hc', _⟩ := hl
    rw [hk _ _ ho'] at ho; cases ho
    rw [hc'] at hc; exact absurd hc (by decide)
  | tuple hl hi => exact ⟨_, hl, hi⟩
  | barr _ hl =>
    rw [hk _ _ hl] at ho; cases ho
    exact absurd (show Value.type "bytearray" = Value.type "tuple" from hc) (by decide)
local macro_rules | `(tactic| walk_at "call type:tuple") => `(tactic| (k_here; (with_reducible show wpAny _ _ (call (Value.type "tuple") [_]) _ _ _); k_dflt (refine' tuple_K ?F ?N ?H ?hh ?hn ?_ ?_; (case F => k_asm); (case N => k_asm); (case H => first | with_reducible assumption | exact Handed.keeps (by with_reducible assumption) (Fr.keep (by k_asm))); (case hh => rfl); (case hn => with_reducible assumption)); all_goals (first | (with_reducible intro t vs h' tk F' N' l1 hi; (try k_lt l1)) | (with_reducible intro t vs e ht hi))))
local macro_rules | `(tactic| k_enter) => `(tactic| ((with_reducible show codeAny _ _ (Code.call (Value.ref 163) _) _ _); k_dflt (refine' Ctr.use (k := 3) (check_value_data ?a ?b) ?e ?f ?g ?h ?i rfl rfl rfl rfl ?jd ?ju ?_; (case e => k_asm); (case f => k_asm); (case g => k_asm); (case h => k_asm); (case i => k_asm); (case a => (first | exact Handed.keeps (by with_reducible assumption) (Fr.keep (by k_asm)) | exact Handed.keeps (Handed.keeps (by with_reducible assumption) (Fr.keep (by with_reducible assumption))) (Fr.keep (by k_asm)))); (case b => with_reducible assumption); (case jd => show _ < _; dsimp only [Around.deeper, Around.in1]; omega); (case ju => show _ < _; dsimp only [Around.deeper, Around.in1]; omega)); k_dflt (intro v' h' tk' hk hf' e F' N'; subst e; clear hk hf'); (try dsimp only)))
local macro_rules | `(tactic| k_enter) => `(tactic| ((with_reducible show codeAny _ _ (Code.call (Value.ref 346) _) _ _); k_dflt (refine' Ctr.use (k := 7) (copy0_spec ?a) ?e ?f ?g ?h ?i rfl rfl rfl rfl ?jd ?ju ?_; (case e => k_asm); (case f => k_asm); (case g => k_asm); (case h => k_asm); (case i => k_asm); (case a => exact Msg.keeps (by with_reducible assumption) (Fr.keep (by k_asm))); (case jd => show _ < _; dsimp only [Around.deeper, Around.in1]; omega); (case ju => show _ < _; dsimp only [Around.deeper, Around.in1]; omega)); k_dflt (intro v' h' tk' hk hf' ⟨a', dx', f', t', n', hs', tf', t1', t2', vs', e', ha', hdx', hf2', M'⟩ F' N'; subst e'; have l1 := hf' _ hdx'; have l2 := hf' _ ha'; have l4 := hf' _ hf2'; have l3 : @Ne Nat dx' a' := msg_ne M'; have l5 : @Ne Nat dx' f' := msg_ne2 M'; have l6 : @Ne Nat a' f' := msg_ne3 M'; obtain ⟨of', hof', hdo'⟩ := Heap.dictOf_iff.mp (Msg.fld M'); have low' := Msg.low M'; replace N' := news_add N' (Msg.dic M') l1; replace N' := news_add N' (Msg.obj M') ⟨l2.1, l2.2.1, ⟨l3, l2.2.2⟩⟩; replace N' := news_add N' hof' ⟨l4.1, l4.2.1, ⟨l6, ⟨l5, l4.2.2⟩⟩⟩; clear hk hf' hof'); (try dsimp only)))
set_option maxHeartbeats 4000000 in
theorem door2 (M : Msg w s.heap a dx f t n hs tf t1 t2 tm vs ms) (H : Handed s.heap v ns) (hr : ∀ n ∈ ns, 0 ≤ n ∧ n ≤ 127) (hn : ns.length ≤ 6) : Ctr 9 w mean mg mb 421 ⟨[.int 2 tk0, v, .ref a], []⟩ s (Made w s.heap tm ns) := by
  intro A base outer R hh B X T hdp hun hR
  obtain ⟨_, dp, fr, gd, un⟩ := A
  obtain rfl := hh
  obtain rfl := B.stack
  dsimp only at hdp hun
  refine' enterK (binds := [(Str.ofString "door", .int 2 tk0), (Str.ofString "handed", v), (Str.ofString "thing", .ref a)]) B X T ?k6 ?k7 ?k8 ?k9 ?kB ?_ ?c2 ?c3 ?c4 ?c5
  case k6 => k_is
  case k7 => k_is
  case k8 => ktr_room
  case k9 => exact BindsTo.of_eq rfl
  case kB => exact locs rfl
  case c2 => rfl
  case c3 => rfl
  case c4 => rfl
  case c5 => decide
  intro L' h₁ F N
  try dsimp only
  k_steps
  · dsimp only
    rename Fr _ _ _ _ => Ff
    rename News _ _ _ _ => Nf
    rename IsTup _ _ _ => ht
    obtain ⟨vs₂, ht₂, hi₂⟩ := tup_back H (by with_reducible assumption) ht (Fr.keep (by with_reducible assumption))
    exact hR _ _ _ Ff.keep (made_of (Nf (_, instObj 391 _) (by k_mem)) (Nf (_, dictOf [⟨_, .str (Str.ofString "fields") _, .ref _⟩] _) (by k_mem)) (Nf (_, _) (by k_mem)) (by k_asm) (by k_asm) (ht₂.keeps Ff.keep) hi₂)
  · dsimp only
    rename Fr _ _ _ _ => Ff
    rename News _ _ _ _ => Nf
    rename IntsAre _ _ => If
    exact hR _ _ _ Ff.keep (made_of (Nf (_, instObj 391 _) (by k_mem)) (Nf (_, dictOf [⟨_, .str (Str.ofString "fields") _, .ref _⟩] _) (by k_mem)) (Nf (_, _) (by k_mem)) (by k_asm) (by k_asm) (News.isTup Nf (by k_mem)) If)
end
end Mine
namespace Mine
theorem filled_LC14 : PySem.Challenge.rw_ae6013_01 = PySem.Challenge.rw_ae6013_01 → hd.heap_39 = hd.heap_39 → True := by
  k_fill
  intro _ _; trivial
local macro_rules | `(tactic| k_room) => `(tactic| ktr_room)
local macro_rules | `(tactic| k_units) => `(tactic| ktr_units)
section
variable {w : World} {mean : ExcName → Option Value} {mg mb : Str → Option Value} {s : Shared}
variable {a dx f t : Addr} {n : Nat} {hs : Int} {tf t1 t2 tk0 : Tok} {tm : Int} {vs : List Value} {ns ms : List Int} {v : Value}
theorem made_all {door : Int} (h0 : 0 ≤ door) (h3 : door ≤ 3) (M : Msg w s.heap a dx f t n hs tf t1 t2 tm vs ms) (H : Handed s.heap v ns) (hr : ∀ n ∈ ns, 0 ≤ n ∧ n ≤ 127) (hn : ns.length ≤ 6) :
    CtrG 9 w mean mg mb 421 ⟨[.int door tk0, v, .ref a], []⟩ s (fun u h' => ∃ tm', Made w s.heap tm' ns u h') := by
  have : door = 0 ∨ door = 1 ∨ door = 2 ∨ door = 3 := by omega
  intro A base outer R h1 h2 g3 g4 g5 g6 h7
  rcases this with rfl | rfl | rfl | rfl
  · exact codeG_any (door0 H hr hn A base outer R h1 h2 g3 g4 (by omega) (by omega) fun v h' tk hk hm => h7 v h' tk hk ⟨_, hm⟩)
  · exact codeG_any (door1 H hr hn A base outer R h1 h2 g3 g4 (by omega) (by omega) fun v h' tk hk hm => h7 v h' tk hk ⟨_, hm⟩)
  · exact codeG_any (door2 M H hr hn A base outer R h1 h2 g3 g4 (by omega) (by omega) fun v h' tk hk hm => h7 v h' tk hk ⟨_, hm⟩)
  · exact door3 M H hr hn A base outer R h1 h2 g3 g4 (by omega) (by omega) fun v h' tk hk hm => h7 v h' tk hk ⟨_, hm⟩
theorem hide_sub {h₀ h : Heap} {l : Addr} (sub : ∀ b o, h₀.get? b = some o → h.get? b = some o) (hl : h₀.get? l = none) : ∀ b o, h₀.get? b = some o → (hideAll h [l]).get? b = some o :=
  fun b o e => hideAll_get _ (sub b o e) fun q => by rw [List.mem_singleton.mp q, hl] at e; cases e
set_option maxHeartbeats 4000000 in
theorem spoil0 {h₀ : Heap} {l : Addr} {c : Nat} (X₀ : (hd.heap_39 w.params).In h₀) (T₀ : TopG mean mg mb h₀) (sub : ∀ b o, h₀.get? b = some o → s.heap.get? b = some o) (hl₀ : h₀.get? l = none) (hl : s.heap.get? l = some (listOf vs.toArray c)) (hz : vs.length ≤ 6)
    (A : Around) (outer : List Env) (R : Result → Shared → Prop) (hh : A.handled = none) (hfr : A.frames = some outer) (hdp : A.depth + 10 < recursionLimit) (hun : A.units + 40 < cLine)
    (hR : ∀ h' tk, (∀ b o, b ≠ l → s.heap.get? b = some o → h'.get? b = some o) → R (.ok (.ret .none)) { s with heap := h', toks := tk }) : codeAny (model P w) A (.call (.ref 428) ⟨[.ref l, .int 0 tk0], []⟩) R s := by
  obtain ⟨_, dp, fr, gd, un⟩ := A
  obtain rfl := hh
  obtain rfl := hfr
  dsimp only at hdp hun
  have X := X₀.keeps (hide_sub sub hl₀)
  have T := T₀.keeps (hide_sub sub hl₀)
  refine' enterH (hb := hideAll s.heap [l]) (news := [(l, listOf vs.toArray c)]) (binds := [(Str.ofString "handed", .ref l), (Str.ofString "k", .int 0 tk0)]) (fun b o e => of_hideAll _ e) (Nat.le_of_eq (hideAll_size _ _)) ?kn X T ?k6 ?k7 ?k8 ?k9 ?kB ?_ ?c2 ?c3 ?c4 ?c5
  case kn => intro q hq; rw [List.mem_singleton.mp hq]; exact ⟨hl, hideAll_none _ (List.mem_singleton.mpr rfl)⟩
  case k6 => k_is
  case k7 => k_is
  case k8 => show _ < _; dsimp only; omega
  case k9 => exact BindsTo.of_eq rfl
  case kB => exact locs rfl
  case c2 => rfl
  case c3 => rfl
  case c4 => rfl
  case c5 => decide
  intro L' h₁ F N
  have hz' : vs.toArray.size + 1 ≤ sizeLine := by rw [sizeLine_eq]; simp only [List.size_toArray]; omega
  try dsimp only
  k_steps
  rename Fr _ _ _ _ => Ff
  dsimp only
  exact hR _ _ fun b o hb e => Ff.keep _ _ (hideAll_get _ e fun q => hb (List.mem_singleton.mp q))
set_option maxHeartbeats 4000000 in
theorem spoil1 : Ctr 1 w mean mg mb 428 ⟨[v, .int 1 tk0], []⟩ s (fun u _ => u = .none) := by
  intro A base outer R hh B X T hdp hun hR
  obtain ⟨_, dp, fr, gd, un⟩ := A
  obtain rfl := hh
  obtain rfl := B.stack
  dsimp only at hdp hun
  refine' enterK (binds := [(Str.ofString "handed", v), (Str.ofString "k", .int 1 tk0)]) B X T ?k6 ?k7 ?k8 ?k9 ?kB ?_ ?c2 ?c3 ?c4 ?c5
  case k6 => k_is
  case k7 => k_is
  case k8 => ktr_room
  case k9 => exact BindsTo.of_eq rfl
  case kB => exact locs rfl
  case c2 => rfl
  case c3 => rfl
  case c4 => rfl
  case c5 => decide
  intro L' h₁ F N
  try dsimp only
  k_steps
  rename Fr _ _ _ _ => Ff
  try dsimp only
  exact hR _ _ _ Ff.keep rfl
set_option maxHeartbeats 4000000 in
theorem spoil2 : Ctr 1 w mean mg mb 428 ⟨[v, .int 2 tk0], []⟩ s (fun u _ => u = .none) := by
  intro A base outer R hh B X T hdp hun hR
  obtain ⟨_, dp, fr, gd, un⟩ := A
  obtain rfl := hh
  obtain rfl := B.stack
  dsimp only at hdp hun
  refine' enterK (binds := [(Str.ofString "handed", v), (Str.ofString "k", .int 2 tk0)]) B X T ?k6 ?k7 ?k8 ?k9 ?kB ?_ ?c2 ?c3 ?c4 ?c5
  case k6 => k_is
  case k7 => k_is
  case k8 => ktr_room
  case k9 => exact BindsTo.of_eq rfl
  case kB => exact locs rfl
  case c2 => rfl
  case c3 => rfl
  case c4 => rfl
  case c5 => decide
  intro L' h₁ F N
  try dsimp only
  k_steps
  rename Fr _ _ _ _ => Ff
  try dsimp only
  exact hR _ _ _ Ff.keep rfl
theorem spoil_no {k : Int} (hk : k = 1 ∨ k = 2) : Ctr 1 w mean mg mb 428 ⟨[v, .int k tk0], []⟩ s (fun u _ => u = .none) := by
  rcases hk with rfl | rfl
  · exact spoil1
  · exact spoil2
end
end Mine
namespace Mine
theorem filled_LC15 : PySem.Challenge.rw_ae6013_01 = PySem.Challenge.rw_ae6013_01 → hd.heap_39 = hd.heap_39 → True := by
  k_fill
  intro _ _; trivial
local macro_rules | `(tactic| k_room) => `(tactic| ktr_room)
local macro_rules | `(tactic| k_units) => `(tactic| ktr_units)
section
variable {w : World} {mean : ExcName → Option Value} {mg mb : Str → Option Value} {s : Shared}
variable {tk0 : Tok} {ns : List Int}
set_option maxHeartbeats 4000000 in
theorem spoil3 {h₀ : Heap} {l : Addr} {b : Array UInt8} (X₀ : (hd.heap_39 w.params).In h₀) (T₀ : TopG mean mg mb h₀) (sub : ∀ b o, h₀.get? b = some o → s.heap.get? b = some o) (hl₀ : h₀.get? l = none) (hl : s.heap.get? l = some (BA.barr b)) (hz : b.size ≤ 6)
    (A : Around) (outer : List Env) (R : Result → Shared → Prop) (hh : A.handled = none) (hfr : A.frames = some outer) (hdp : A.depth + 10 < recursionLimit) (hun : A.units + 40 < cLine)
    (hR : ∀ h' tk, (∀ b o, b ≠ l → s.heap.get? b = some o → h'.get? b = some o) → R (.ok (.ret .none)) { s with heap := h', toks := tk }) : codeG (model P w) A (.call (.ref 428) ⟨[.ref l, .int 3 tk0], []⟩) R s := by
  obtain ⟨_, dp, fr, gd, un⟩ := A
  obtain rfl := hh
  obtain rfl := hfr
  dsimp only at hdp hun
  have X := X₀.keeps (hide_sub sub hl₀)
  have T := T₀.keeps (hide_sub sub hl₀)
  refine' enterGH (hb := hideAll s.heap [l]) (news := [(l, BA.barr b)]) (binds := [(Str.ofString "handed", .ref l), (Str.ofString "k", .int 3 tk0)]) (fun b o e => of_hideAll _ e) (Nat.le_of_eq (hideAll_size _ _)) ?kn X T ?k6 ?k7 ?k8 ?k9 ?kB ?_ ?c2 ?c3 ?c4 ?c5
  case kn => intro q hq; rw [List.mem_singleton.mp hq]; exact ⟨hl, hideAll_none _ (List.mem_singleton.mpr rfl)⟩
  case k6 => k_is
  case k7 => k_is
  case k8 => show _ < _; dsimp only; omega
  case k9 => exact BindsTo.of_eq rfl
  case kB => exact locs rfl
  case c2 => rfl
  case c3 => rfl
  case c4 => rfl
  case c5 => decide
  intro L' h₁ F N
  try dsimp only
  refine G_execs_cons (G_If (G_any ?_))
  k_steps
  simp only [if_true]
  refine G_execs_cons (G_Expr (G_MethodCall ?_))
  k_steps
  rename Fr _ _ _ _ => Ff
  rename News _ _ _ _ => Nf
  refine BA.method_append (Nf _ (List.Mem.head _)).1 ?_
  dsimp only
  refine G_callWith_builtin ?_
  k_steps
  rename Fr _ _ _ _ => Fg
  rename News _ _ _ _ => Ng
  refine BA.append_G (Ng _ (List.Mem.head _)).1 (by decide) (by decide) (by rw [sizeLine_eq]; omega) fun h' hk' => ?_
  dsimp only
  refine G_execs_nil ?_
  dsimp only
  refine G_execs_nil ?_
  dsimp only
  exact hR _ _ fun x o hb e => hk' x o hb (Fg.keep _ _ (hideAll_get _ e fun q => hb (List.mem_singleton.mp q)))
end
end Mine
namespace Mine
theorem filled_LC16 : PySem.Challenge.rw_ae6013_01 = PySem.Challenge.rw_ae6013_01 → hd.heap_39 = hd.heap_39 → True := by
  k_fill
  intro _ _; trivial
local macro_rules | `(tactic| k_room) => `(tactic| ktr_room)
local macro_rules | `(tactic| k_units) => `(tactic| ktr_units)
section
variable {w : World} {mean : ExcName → Option Value} {mg mb : Str → Option Value} {s : Shared}
variable {a dx f t r : Addr} {n : Nat} {hs : Int} {tf t1 t2 : Tok} {tm : Int} {vs us : List Value} {ns : List Int}
local macro_rules | `(tactic| k_inst) => `(tactic| exact Msg.inst (Msg.keeps (by with_reducible assumption) (Fr.keep (by k_asm))))
local macro_rules | `(tactic| walk_at "handedOut") => `(tactic| (k_here; refine handed_on rfl ?_))
local macro_rules | `(tactic| walk_at "subscriptTail") => `(tactic| (k_here; (with_reducible show wpAny _ _ (subscriptTail _ _ (Value.ref _) (Value.str _ _)) _ _ _); k_dflt (refine od_item (knd := PySem.strKind _ _) (by k_asm) (by with_reducible assumption) (strKind_is _ _ _ _) (by rfl) ?_)))
local macro_rules | `(tactic| walk_at "call type:tuple") => `(tactic| (k_here; (with_reducible show wpAny _ _ (call (Value.type "tuple") [_]) _ _ _); k_dflt (refine' tuple_K ?F ?N ?H ?hh ?hn ?_ ?_; (case F => k_asm); (case N => k_asm); (case H => with_reducible assumption); (case hh => rfl); (case hn => with_reducible assumption)); all_goals (first | (with_reducible intro t vs h' tk F' N' l1 hi; (try k_lt l1)) | (with_reducible intro t vs e ht hi))))
local macro_rules | `(tactic| k_enter) => `(tactic| ((with_reducible show codeAny _ _ (Code.call (Value.ref 275) _) _ _); k_dflt (refine' Ctr.use (k := 1) (dict_spec ?a ?b) ?e ?f ?g ?h ?i rfl rfl rfl rfl ?jd ?ju ?_; (case e => k_asm); (case f => k_asm); (case g => k_asm); (case h => k_asm); (case i => k_asm); (case a => exact Msg.keeps (by with_reducible assumption) (Fr.keep (by k_asm))); (case b => with_reducible assumption); (case jd => show _ < _; dsimp only [Around.deeper, Around.in1]; omega); (case ju => show _ < _; dsimp only [Around.deeper, Around.in1]; omega)); k_dflt (intro v' h' tk' hk hf' ⟨d', od', l', c', e', lo', hd1, hl1, hod, hol, hne, hdo'⟩ F' N'; subst e'; have l1 := hf' _ hd1; have l2 := hf' _ hl1; replace N' := news_add N' hol l2; replace N' := news_add N' hod ⟨l1.1, l1.2.1, ⟨(Ne.symm hne : @Ne Nat _ _), l1.2.2⟩⟩; clear hk hf' hod hol); (try dsimp only)))
local macro_rules | `(tactic| k_enter) => `(tactic| ((with_reducible show codeAny _ _ (Code.call (Value.ref 238) _) _ _); k_dflt (refine' Ctr.use (k := 1) (type_spec ?a) ?e ?f ?g ?h ?i rfl rfl rfl rfl ?jd ?ju ?_; (case e => k_asm); (case f => k_asm); (case g => k_asm); (case h => k_asm); (case i => k_asm); (case a => exact Msg.keeps (by with_reducible assumption) (Fr.keep (by k_asm))); (case jd => show _ < _; dsimp only [Around.deeper, Around.in1]; omega); (case ju => show _ < _; dsimp only [Around.deeper, Around.in1]; omega)); k_dflt (intro v h' tk hk hf' e F' N'; subst e; clear hk hf'); (try dsimp only)))
local macro_rules | `(tactic| k_enter) => `(tactic| ((with_reducible show codeAny _ _ (Code.call (Value.ref 246) _) _ _); k_dflt (refine' Ctr.use (k := 1) (time_spec ?a) ?e ?f ?g ?h ?i rfl rfl rfl rfl ?jd ?ju ?_; (case e => k_asm); (case f => k_asm); (case g => k_asm); (case h => k_asm); (case i => k_asm); (case a => exact Msg.keeps (by with_reducible assumption) (Fr.keep (by k_asm))); (case jd => show _ < _; dsimp only [Around.deeper, Around.in1]; omega); (case ju => show _ < _; dsimp only [Around.deeper, Around.in1]; omega)); k_dflt (intro v h' tk hk hf' e F' N'; subst e; clear hk hf'); (try dsimp only)))
local macro_rules | `(tactic| k_enter) => `(tactic| ((with_reducible show codeAny _ _ (Code.call (Value.ref 337) _) _ _); k_dflt (refine' Ctr.use (k := 1) (data_spec ?a) ?e ?f ?g ?h ?i rfl rfl rfl rfl ?jd ?ju ?_; (case e => k_asm); (case f => k_asm); (case g => k_asm); (case h => k_asm); (case i => k_asm); (case a => exact Msg.keeps (by with_reducible assumption) (Fr.keep (by k_asm))); (case jd => show _ < _; dsimp only [Around.deeper, Around.in1]; omega); (case ju => show _ < _; dsimp only [Around.deeper, Around.in1]; omega)); k_dflt (intro v h' tk hk hf' e F' N'; subst e; clear hk hf'); (try dsimp only)))
local macro_rules | `(tactic| k_enter) => `(tactic| ((with_reducible show codeAny _ _ (Code.call (Value.ref 388) _) _ _); k_dflt (refine' Ctr.use (k := 3) (bytes_spec ?a ?b) ?e ?f ?g ?h ?i rfl rfl rfl rfl ?jd ?ju ?_; (case e => k_asm); (case f => k_asm); (case g => k_asm); (case h => k_asm); (case i => k_asm); (case a => exact Msg.keeps (by with_reducible assumption) (Fr.keep (by k_asm))); (case b => with_reducible assumption); (case jd => show _ < _; dsimp only [Around.deeper, Around.in1]; omega); (case ju => show _ < _; dsimp only [Around.deeper, Around.in1]; omega)); k_dflt (intro v h' tk hk hf' ⟨d, ws, e, hd, hl, hi⟩ F' N'; subst e; have l1 := hf' _ hd; replace N' := news_add N' hl l1; clear hl hk hf'; obtain ⟨_, _, l1⟩ := l1; (try dsimp only [AllNe] at l1)); (try dsimp only)))
local macro_rules | `(tactic| k_enter) => `(tactic| ((with_reducible show codeAny _ _ (Code.call (Value.ref 374) _) _ _); k_dflt (refine' Ctr.use (k := 3) (len_spec ?a ?b) ?e ?f ?g ?h ?i rfl rfl rfl rfl ?jd ?ju ?_; (case e => k_asm); (case f => k_asm); (case g => k_asm); (case h => k_asm); (case i => k_asm); (case a => exact Msg.keeps (by with_reducible assumption) (Fr.keep (by k_asm))); (case b => with_reducible assumption); (case jd => show _ < _; dsimp only [Around.deeper, Around.in1]; omega); (case ju => show _ < _; dsimp only [Around.deeper, Around.in1]; omega)); k_dflt (intro v h' tk hk hf' ⟨tl, e⟩ F' N'; subst e; clear hk hf'); (try dsimp only)))
theorem shaped_tup (ns : List Int) : SeqAt.shaped (.tuple (ns.map PyData.int)) = true := by
  have h1 := PySem.W.depthAll_ints ns
  have h2 : PyData.depth (.tuple (ns.map PyData.int)) ≤ 64 := by simp only [PyData.depth]; omega
  show (PyData.canLay0 (.tuple (ns.map PyData.int)) && decide (PyData.depth (.tuple (ns.map PyData.int)) ≤ 64)) = true
  rw [Bool.and_eq_true]
  exact ⟨by simp only [PyData.canLay0]; exact canLayAll0_ints ns, decide_eq_true h2⟩
theorem ne_tupK {w : World} {A : Around} {E : Value → Shared → Prop} {s : Shared} {a b : Addr} {vs us : List Value} {ns ms : List Int} {Q : Value → Shared → Prop} (hl : IsTup s.heap a vs.toArray) (hi : IntsAre vs ns) (hl' : IsTup s.heap b us.toArray) (hi' : IntsAre us ms) (hu : A.units + 64 < cLine)
    (h : Q (.bool (!decide (ns = ms))) s) : wpAny (model P w) A (compareOp .NotEq (.ref a) (.ref b)) Q E s :=
  ne_dataH_same (reads_tuple_ints hl hi) (reads_tuple_ints hl' hi') (shaped_tup ns) (shaped_tup ms) hu (by simp only [PySem.SeqAt.noMix]; exact noMix_ints ns ms) (by simp only [PySem.Spec.same]; rw [same_ints]; exact h)
theorem list_no_tup {h : Heap} {r t : Addr} {us : List Value} {its : Array Value} (hl : h.IsList r us.toArray) (e : Value.ref r = Value.ref t) (ht : IsTup h t its) : False := by
  cases e
  obtain ⟨o, ho, hc, _⟩ := ht
  obtain ⟨o', ho', hc', _⟩ := hl
  rw [ho] at ho'; cases ho'
  rw [hc] at hc'; exact absurd hc' (by decide)
theorem ne_tupS {w : World} {A : Around} {E : Value → Shared → Prop} {s : Shared} {a b : Addr} {vs us : List Value} {ns : List Int} {Q : Value → Shared → Prop} (hl : IsTup s.heap a vs.toArray) (hi : IntsAre vs ns) (hl' : IsTup s.heap b us.toArray) (hi' : IntsAre us ns) (hu : A.units + 64 < cLine)
    (h : Q (.bool false) s) : wpAny (model P w) A (compareOp .NotEq (.ref a) (.ref b)) Q E s := ne_tupK hl hi hl' hi' hu (by simpa using h)
local macro_rules | `(tactic| walk_at "compareOp NotEq ref ref") => `(tactic| (k_here; (with_reducible show wpAny _ _ (compareOp CmpOp.NotEq (Value.ref _) (Value.ref _)) _ _ _); k_dflt (refine' ne_tupS ?a ?b ?c ?d ?u ?_; (case a => exact IsTup.keeps (by with_reducible assumption) (Fr.keep (by k_asm))); (case b => with_reducible assumption); (case c => exact News.isTup (by k_asm) (by k_mem)); (case d => with_reducible assumption); (case u => show _ < _; dsimp only [Around.deeper, Around.in1]; omega))))
theorem eqv_refl_str (x : Str) : PyData.eqv (.str x) (.str x) = true := by simp [PyData.eqv]
theorem eqv_refl_int (x : Int) : PyData.eqv (.int x) (.int x) = true := by simp [PyData.eqv]
/-- told, and the dict written out -/
theorem ne_told {w : World} {A : Around} {E : Value → Shared → Prop} {s : Shared} {a b l r : Addr} {vs us : List Value} {ns : List Int} {tm : Int} {k1 k2 k3 k4 : Tok} {Q : Value → Shared → Prop} (ha : (a == sysModules) = false) (hb : (b == sysModules) = false)
    (da : s.heap.DictOf (strKind P w) a [(Str.ofString "type", .str (Str.ofString "sysex") k1), (Str.ofString "time", .int tm k2), (Str.ofString "data", .ref l)])
    (db : s.heap.DictOf (strKind P w) b [(Str.ofString "type", .str (Str.ofString "sysex") k3), (Str.ofString "data", .ref r), (Str.ofString "time", .int tm k4)])
    (hl : s.heap.IsList l vs.toArray) (hi : IntsAre vs ns) (hl' : s.heap.IsList r us.toArray) (hi' : IntsAre us ns) (hu : A.units + 66 < cLine) (h : Q (.bool false) s) : wpAny (model P w) A (compareOp .NotEq (.ref a) (.ref b)) Q E s := by
  refine keq_ne (r := true) ha hb da db (by omega) (fun _ => ?_) (by simpa using h)
  have e1 : SeqAt.EqAt A.in1 s (.str (Str.ofString "sysex") k1) (.str (Str.ofString "sysex") k3) true := by
    have := keq_flat (A := A.in1) (s := s) (PyProof.V.Flat.str (Str.ofString "sysex") k1) (PyProof.V.Flat.str (Str.ofString "sysex") k3)
    rwa [eqv_refl_str] at this
  have e2 : SeqAt.EqAt A.in1 s (.int tm k2) (.int tm k4) true := by
    have := keq_flat (A := A.in1) (s := s) (PyProof.V.Flat.int tm k2) (PyProof.V.Flat.int tm k4)
    rwa [eqv_refl_int] at this
  have e3 : SeqAt.EqAt A.in1 s (.ref l) (.ref r) true := by
    have := keq_ints (A := A) hl hi hl' hi' (by show A.units + 1 + 64 < cLine; omega)
    simpa using this
  exact .hit (e := true) (b := true) rfl e1 (.hit (e := true) (b := true) rfl e2 (.hit (e := true) (b := true) rfl e3 .nil))
theorem isi_tup {w : World} {A : Around} {E : Value → Shared → Prop} {s : Shared} {h₀ : Heap} {L t : Addr} {m : Str → Option Value} {its : Array Value} {Q : Value → Shared → Prop} (F : Fr h₀ L s.heap m) (ht : IsTup h₀ t its) (h : Q (.bool true) s) : wpAny (model P w) A (call (.builtin "isinstance") [.ref t, .type "tuple"]) Q E s :=
  call_isinstance_yes (Tx := "tuple") (ht.keeps F.keep).typeIs (by first | rfl | kernel_rfl) (by rw [isSubtype_type]; kernel_rfl) h
theorem isi_lst {w : World} {A : Around} {E : Value → Shared → Prop} {s : Shared} {l : Addr} {its : Array Value} {Q : Value → Shared → Prop} (hl : s.heap.IsList l its) (h : Q (.bool true) s) : wpAny (model P w) A (call (.builtin "isinstance") [.ref l, .type "list"]) Q E s :=
  call_isinstance_yes (Tx := "list") hl.typeIs (by first | rfl | kernel_rfl) (by rw [isSubtype_type]; kernel_rfl) h
local macro_rules | `(tactic| walk_at "call builtin:isinstance") => `(tactic| (k_here; (with_reducible show wpAny _ _ (call _ [Value.ref _, Value.type "tuple"]) _ _ _); k_dflt (refine isi_tup (by k_asm) (by with_reducible assumption) ?_)))
local macro_rules | `(tactic| walk_at "call builtin:isinstance") => `(tactic| (k_here; (with_reducible show wpAny _ _ (call _ [Value.ref _, Value.type "list"]) _ _ _); k_dflt (refine isi_lst (News.isList (by k_asm) (by k_mem)) ?_)))
theorem G_callWith_fn0 {M : Model} {A : Around} {E : Value → Shared → Prop} {s : Shared} {env : Env} {pos : Pos} {a : Addr} {o : Obj} {fd : FuncData} {first : List Value} {Q : Value → Shared → Prop} (ho : s.heap.get? a = some o) (hd : o.data = .func fd)
    (h : wpG M A (call (.ref a) first) Q E s) : wpG M A (callWith pos (.ref a) first (backTo pos (starEach [] env)) (backToKw pos (keywordEach [] env))) Q E s := by
  refine G_callWith_fn (o := o) (fd := fd) ?_
  unfold evalArgs
  show wpAny M A (spliced [] >>= _) _ E s
  refine wpAny_bind (Calls.spliced_nil (wpAny_bind (wpAny_pure ?_)))
  refine wpAny_holding ?_
  exact wpAny_bind (wpAny_pure (wpAny_pure ⟨⟨ho, hd⟩, by simpa using h⟩))
theorem list_baK {prog : Program} {w : World} {A : Around} {E : Value → Shared → Prop} {s : Shared} {h₀ : Heap} {L l : Addr} {m : Str → Option Value} {ns : List Int} {Q : Value → Shared → Prop} (F : Fr h₀ L s.heap m) (hb : s.heap.get? l = some (BA.barr (byteArr ns))) (hr : ∀ n ∈ ns, 0 ≤ n ∧ n < 256) (hn : ns.length ≤ 8) (hh : A.handled = none)
    (h : ∀ D c ws h' tk, Fr h₀ L h' m → News h₀ L h' [(D, listOf (List.toArray ws) c)] → IntsAre ws ns → Q (.ref D) { s with heap := h', toks := tk }) : wpAny (model prog w) A (call (.type "list") [.ref l]) Q E s := by
  refine call_list_walk (iterates_ba hb) hh (by rw [byteArr_size, sizeLine_eq]; omega) fun h3 tk3 acc c hk3 hS hacc => ?_
  rw [byteArr_size] at hacc
  obtain ⟨ws⟩ := acc
  refine h _ c ws h3 tk3 (fr_keep F hk3) (fun p hp => ?_) (ints_of_items hr hacc)
  rw [List.mem_singleton.mp hp]
  exact news_pushed (news := []) (o := listOf ws.toArray c) F (fun _ hq => nomatch hq) hk3 hS rfl _ (.head _)
/-- a loop that only looks -/
theorem iter_look {prog : Program} {w : World} {A : Around} {E : Value → Shared → Prop} {s : Shared} {env : Env} {h₀ : Heap} {x : Str} {body : List Stmt} {Q : Flow → Shared → Prop} {m₀ : Str → Option Value} {v : Value} {ns : List Int} (H : Handed h₀ v ns)
    (hh : A.handled = none) (F : Fr h₀ env.locals s.heap m₀)
    (turn : ∀ k t h tk own, k ∈ ns → Fr h₀ env.locals h (fun y => if y = x then some (.int k t) else m₀ y) → News h₀ env.locals h own →
      wpAny (model prog w) A (execs body env) (fun f s₂ => f = .next ∧ s₂ = { s with heap := h, toks := s₂.toks }) E { s with heap := h, toks := tk })
    (done : ∀ o h tk, Fr h₀ env.locals h (fun y => if y = x then o else m₀ y) → Q .next { s with heap := h, toks := tk }) :
    wpAny (model prog w) A (pyIter v) (fun it s₂ => LoopAtV prog w A h₀ env x body Q E it s₂) E s := by
  refine iter_handed (news := []) (R := fun (_ : Unit) m nx => nx = [] ∧ ∀ y, y ≠ x → m y = m₀ y) (fun _ _ => ()) () H hh F (fun _ hp => nomatch hp) ⟨rfl, fun _ _ => rfl⟩ ?_ ?_
  · rintro k t a m₁ nx h tk own hk hoff ⟨rfl, hm⟩ F₁ N₁
    have em : (fun y => if y = x then some (Value.int k t) else m₁ y) = fun y => if y = x then some (Value.int k t) else m₀ y := by
      funext y
      by_cases e : y = x
      · simp only [if_pos e]
      · simp only [if_neg e]; exact hm y e
    rw [em] at F₁
    refine wpAny_mono (turn k t h tk own hk F₁ N₁) (fun f s₂ h₂ => ?_) fun _ _ h => h
    obtain ⟨rfl, e⟩ := h₂
    exact ⟨h, s₂.toks, _, _, [], by rw [e], F₁, N₁, (fun _ hq => nomatch hq), (fun _ hq => hq), rfl, rfl, fun y hy => if_neg hy⟩
  · rintro m₁ nx h tk ⟨rfl, hm⟩ F₁ N₁
    have em : m₁ = fun y => if y = x then m₁ x else m₀ y := by
      funext y
      by_cases e : y = x
      · rw [if_pos e, e]
      · simp only [if_neg e]; exact hm y e
    rw [em] at F₁
    exact done _ h tk F₁
set_option maxHeartbeats 1500000 in
theorem same_spec (M : Msg w s.heap a dx f t n hs tf t1 t2 tm vs ns) (hn : ns.length ≤ 6) (hr : ∀ n ∈ ns, 0 ≤ n ∧ n ≤ 127) (hrow : s.heap.IsList r us.toArray) (hi : IntsAre us ns) :
    CtrG 6 w mean mg mb 414 ⟨[.ref a, .ref r], []⟩ s (fun v _ => v = .bool true) := by
  intro A base outer R hh B X T hdp hun hR
  obtain ⟨_, dp, fr, gd, un⟩ := A
  obtain rfl := hh
  obtain rfl := B.stack
  dsimp only at hdp hun
  refine' enterG (binds := [(Str.ofString "thing", .ref a), (Str.ofString "row", .ref r)]) B X T ?k6 ?k7 ?k8 ?k9 ?kB ?_ ?c2 ?c3 ?c4 ?c5
  case k6 => k_is
  case k7 => k_is
  case k8 => ktr_room
  case k9 => exact BindsTo.of_eq rfl
  case kB => exact locs rfl
  case c2 => rfl
  case c3 => rfl
  case c4 => rfl
  case c5 => decide
  intro L' h₁ F N
  try dsimp only
  have H : Handed s.heap (.ref r) ns := .list hrow hi
  have Mf := M.fld
  have Mt : IsTup s.heap t vs.toArray := M.tup
  have Mr := M.rowI
  have hz : vs.toArray.size ≤ sizeLine := by have := Mr.length; rw [sizeLine_eq]; simp only [List.size_toArray]; omega
  refine G_execs_cons (G_any ?_)
  k_steps
  dsimp only
  refine G_execs_cons (G_any ?_)
  k_steps
  any_goals (
    rename IsTup _ _ _ => ht
    rename Value.ref _ = Value.ref _ => e
    exact absurd (list_no_tup hrow e ht) id)
  dsimp only
  refine G_execs_cons (G_any ?_)
  k_steps
  dsimp only
  refine G_execs_cons (G_any ?_)
  k_steps
  dsimp only
  refine G_execs_cons (G_any ?_)
  k_steps
  rename Fr _ _ _ _ => Ff
  refine iter_look (Handed.tuple Mt Mr) rfl Ff ?turn ?done
  case turn =>
    intro k t h tk own hk F₁ N₁
    clear Ff
    k_steps
  case done =>
    intro o h tk F₁
    have N₁ : News s.heap L' h [] := fun _ hp => nomatch hp
    clear Ff
    dsimp only
    refine G_execs_cons (G_Return (G_BoolOp (G_boolAnd (G_any ?_))))
    k_steps
    refine G_boolAnd (G_Compare1 (G_Call_Name ?_))
    k_steps
    refine G_callWith_type1 (G_MethodCall ?_)
    k_steps
    obtain ⟨fo, hfo, fd, hfd⟩ : ∃ o, (hd.heap_39 w.params).lookup 268 = some o ∧ ∃ fd, o.data = .func fd := ⟨_, by k_is, _, rfl⟩
    rename Fr _ _ _ _ => Fg
    rename News _ _ _ _ => Ng
    refine G_callWith_fn0 (Fg.keep _ _ (X 268 _ hfo)) hfd ?_
    dsimp only
    refine G_call ?_
    refine' CtrG.use (k := 4) (bin_spec (M.keeps Fg.keep) hn hr) B Fg Ng X T rfl rfl rfl rfl ?xjd ?xju ?_
    case xjd => show _ < _; dsimp only [Around.deeper, Around.in1]; omega
    case xju => show _ < _; dsimp only [Around.deeper, Around.in1]; omega
    rintro v' h' tk' hk hf' ⟨l, rfl, hl, hb⟩ Fh Nh
    refine list_baK Fh hb (octets hr) (by simp only [List.length_append, List.length_cons, List.length_nil]; omega) rfl ?_
    intro D c ws h3 tk3 F3 N3 hi3
    clear Fh Nh hk hf' Fg Ng hl hb
    dsimp only
    k_steps
    refine G_boolAnd (G_any ?_)
    k_steps
    dsimp only [PySem.W.LenBack]
    refine ⟨⟨by omega, by omega⟩, ?_⟩
    k_steps
    refine G_boolOne (G_any ?_)
    k_steps
    · rename Fr _ _ _ _ => Fz
      exact hR _ _ _ Fz.keep rfl
    · rename Fr _ _ _ _ => Fz
      exact hR _ _ _ Fz.keep (congrArg Value.bool (beq_iff_eq.mpr (Int.add_comm _ _)))
end
end Mine
namespace Mine
/-- a ValueError that flies, seen from the call -/
def Flies (base G : Heap) (outer : List Env) (e : Addr) (h : Heap) : Prop :=
  RaisedSN base G outer e (.type "ValueError") [] h ∧ G.UpToSlots h
/-- a call that raises ValueError -/
abbrev CtrX (k : Nat) (w : World) (mean : ExcName → Option Value) (mg mb : Str → Option Value) (f : Addr) (args : Args) (s : Shared) : Prop :=
  ∀ (A : Around) (base : Heap) (outer : List Env) (R : Result → Shared → Prop), A.handled = none → Below A base outer s.heap →
    (hd.heap_39 w.params).In s.heap → TopG mean mg mb s.heap → A.depth + 10 * k < recursionLimit → A.units + 40 * k < cLine →
    (∀ e h' tk, Flies base s.heap outer e h' → R (.error (.ref e)) { s with heap := h', toks := tk }) →
    codeAny (model P w) A (.call (.ref f) args) R s
abbrev CtrXG (k : Nat) (w : World) (mean : ExcName → Option Value) (mg mb : Str → Option Value) (f : Addr) (args : Args) (s : Shared) : Prop :=
  ∀ (A : Around) (base : Heap) (outer : List Env) (R : Result → Shared → Prop), A.handled = none → Below A base outer s.heap →
    (hd.heap_39 w.params).In s.heap → TopG mean mg mb s.heap → A.depth + 10 * k < recursionLimit → A.units + 40 * k < cLine →
    (∀ e h' tk, Flies base s.heap outer e h' → R (.error (.ref e)) { s with heap := h', toks := tk }) →
    codeG (model P w) A (.call (.ref f) args) R s
theorem CtrX.toG {k : Nat} {w : World} {mean : ExcName → Option Value} {mg mb : Str → Option Value} {f : Addr} {args : Args} {s : Shared} (C : CtrX k w mean mg mb f args s) : CtrXG k w mean mg mb f args s :=
  fun A base outer R h1 h2 h3 h4 h5 h6 h7 => codeG_any (C A base outer R h1 h2 h3 h4 h5 h6 h7)
theorem bareN {base G : Heap} {l : List Env} {e : Addr} {cls : Value} {news : List (Addr × Obj)} {h : Heap} (R : RaisedSN base G l e cls news h) : RaisedSN base G l e cls [] h := by
  obtain ⟨B, a0, h1, h2, _, h4⟩ := R
  exact ⟨B, a0, h1, h2, (fun _ hq => nomatch hq), h4⟩
/-- the callee's raise, seen from the caller's frame -/
theorem CtrX.use {w : World} {mean : ExcName → Option Value} {mg mb : Str → Option Value} {s : Shared} {k : Nat} {f : Addr} {args : Args} {A₀ A : Around} {base h₀ : Heap} {outer : List Env} {L : Addr} {m : Str → Option Value} {env : Env} {R : Result → Shared → Prop}
    (C : CtrX k w mean mg mb f args s) (B : Below A₀ base outer h₀) (F : Fr h₀ L s.heap m) (X : (hd.heap_39 w.params).In h₀) (T : TopG mean mg mb h₀)
    (hA : A.frames = some (env :: outer)) (hf : env.frame = some L) (hke : env.scope.kind = .function) (hh : A.handled = none) (hdp : A.depth + 10 * k < recursionLimit) (hun : A.units + 40 * k < cLine)
    (hR : ∀ e h' tk, Flies base s.heap (env :: outer) e h' → R (.error (.ref e)) { s with heap := h', toks := tk }) :
    codeAny (model P w) A (.call (.ref f) args) R s :=
  C A base (env :: outer) _ hh (below_here B F hA hf hke) (X.keeps F.keep) (T.keeps F.keep) hdp hun hR
theorem CtrXG.use {w : World} {mean : ExcName → Option Value} {mg mb : Str → Option Value} {s : Shared} {k : Nat} {f : Addr} {args : Args} {A₀ A : Around} {base h₀ : Heap} {outer : List Env} {L : Addr} {m : Str → Option Value} {env : Env} {R : Result → Shared → Prop}
    (C : CtrXG k w mean mg mb f args s) (B : Below A₀ base outer h₀) (F : Fr h₀ L s.heap m) (X : (hd.heap_39 w.params).In h₀) (T : TopG mean mg mb h₀)
    (hA : A.frames = some (env :: outer)) (hf : env.frame = some L) (hke : env.scope.kind = .function) (hh : A.handled = none) (hdp : A.depth + 10 * k < recursionLimit) (hun : A.units + 40 * k < cLine)
    (hR : ∀ e h' tk, Flies base s.heap (env :: outer) e h' → R (.error (.ref e)) { s with heap := h', toks := tk }) :
    codeG (model P w) A (.call (.ref f) args) R s :=
  C A base (env :: outer) _ hh (below_here B F hA hf hke) (X.keeps F.keep) (T.keeps F.keep) hdp hun hR
theorem keepsUpTo {g g' : Heap} (k : ∀ b o, g.get? b = some o → g'.get? b = some o) : g.UpToSlots g' := Heap.UpToSlots.of_keeps k
/-- the frame lets it on -/
theorem leave_flies {M : Model} {A : Around} {E : Value → Shared → Prop} {s' : Shared} {base g g₂ : Heap} {outer : List Env} {L a e : Addr} {m : Str → Option Value} {name : Str} {scope : Scope} {cd : Value} {Q : Unit → Shared → Prop}
    (K : Below A base outer g) (F : Fr g L g₂ m) (R : Flies base g₂ (envOf name scope L a cd :: outer) e s'.heap) (hQ : ∀ h', Flies base g outer e h' → Q () { s' with heap := h' }) :
    wpAny M (A.deeper (envOf name scope L a cd)) (leaving (envOf name scope L a cd) (.ref e)) Q E s' := by
  obtain ⟨R, U⟩ := R
  exact leave_onSN K F R U fun h' S' _ U' => hQ h' ⟨S', U'⟩
/-- the frame raises it -/
theorem leave_new {M : Model} {A : Around} {E : Value → Shared → Prop} {s' : Shared} {base g h : Heap} {outer : List Env} {L a e : Addr} {m : Str → Option Value} {name : Str} {scope : Scope} {cd : Value} {Q : Unit → Shared → Prop} {news : List (Addr × Obj)}
    (K : Below A base outer g) (hx : Heap.NewExc h s'.heap e "ValueError") (F : Fr g L h m) (N : News g L h news) (hk : scope.kind = .function) (hQ : ∀ h', Flies base g outer e h' → Q () { s' with heap := h' }) :
    wpAny M (A.deeper (envOf name scope L a cd)) (leaving (envOf name scope L a cd) (.ref e)) Q E s' :=
  leave_newS K hx F N (fun h' S' _ U' => hQ h' ⟨bareN S', U'⟩) hk
/-- a smaller heap's view -/
theorem Flies.old {base G G' : Heap} {outer : List Env} {e : Addr} {h : Heap} (k : ∀ b o, G'.get? b = some o → G.get? b = some o) (x : Flies base G outer e h) : Flies base G' outer e h := by
  obtain ⟨⟨B, a0, h1, h2, _, h4⟩, U⟩ := x
  exact ⟨⟨B, a0, h1, fun b o e n => h2 b o (k b o e) n, (fun _ hq => nomatch hq), h4⟩, (keepsUpTo k).trans U⟩
theorem CtrX.old {w : World} {mean : ExcName → Option Value} {mg mb : Str → Option Value} {s : Shared} {k : Nat} {f : Addr} {args : Args} {G : Heap} {base : Heap} {outer : List Env} {R : Result → Shared → Prop} (_C : CtrX k w mean mg mb f args s)
    (kk : ∀ b o, G.get? b = some o → s.heap.get? b = some o) (hR : ∀ e h' tk, Flies base G outer e h' → R (.error (.ref e)) { s with heap := h', toks := tk }) :
    ∀ e h' tk, Flies base s.heap outer e h' → R (.error (.ref e)) { s with heap := h', toks := tk } := fun e h' tk x => hR e h' tk (x.old kk)
end Mine
namespace Mine
theorem filled_LX1 : PySem.Challenge.rw_ae6013_01 = PySem.Challenge.rw_ae6013_01 → hd.heap_39 = hd.heap_39 → True := by
  k_fill
  intro _ _; trivial
local macro_rules | `(tactic| k_room) => `(tactic| ktr_room)
local macro_rules | `(tactic| k_units) => `(tactic| ktr_units)
section
variable {w : World} {mean : ExcName → Option Value} {mg mb : Str → Option Value} {s : Shared}
local macro_rules | `(tactic| walk_at "leaving ref") => `(tactic| (k_here; first
  | (refine' leave_new ?k1 ?k0 ?k2 ?k3 rfl ?_; (case k0 => assumption); (case k2 => assumption); (case k1 => assumption); (case k3 => k_asm); k_whole; intro h' X'; (try dsimp only at X' ⊢))
  | (refine' leave_flies ?k1 ?k2 ?k3 ?_; (case k3 => with_reducible assumption); (case k1 => assumption); (case k2 => assumption); k_whole; intro h' X'; (try dsimp only at X' ⊢))))
set_option maxHeartbeats 4000000 in
theorem byte_raise {n : Int} {tk0 : Tok} (h0 : 0 ≤ n) (h1 : 127 < n) : CtrX 1 w mean mg mb 149 ⟨[.int n tk0], []⟩ s := by
  intro A base outer R hh B X T hdp hun hR
  obtain ⟨_, dp, fr, gd, un⟩ := A
  obtain rfl := hh
  obtain rfl := B.stack
  dsimp only at hdp hun
  refine' enterK (binds := [(Str.ofString "value", .int n tk0)]) B X T ?k6 ?k7 ?k8 ?k9 ?kB ?_ ?c2 ?c3 ?c4 ?c5
  case k6 => k_is
  case k7 => k_is
  case k8 => ktr_room
  case k9 => exact BindsTo.of_eq rfl
  case kB => exact locs rfl
  case c2 => rfl
  case c3 => rfl
  case c4 => rfl
  case c5 => decide
  intro L' h₁ F N
  try dsimp only
  k_steps
  all_goals exact hR _ _ _ (by assumption)
theorem bad_or {n : Int} (h0 : 0 ≤ n) : n ≤ 127 ∨ 127 < n := by omega
local macro_rules | `(tactic| k_enter) => `(tactic| ((with_reducible show codeAny _ _ (Code.call (Value.ref 149) _) _ _); k_dflt (refine' CtrX.use (k := 1) (byte_raise ?a ?b) ?e ?f ?h ?i rfl rfl rfl rfl ?jd ?ju ?_; (case e => k_asm); (case f => k_asm); (case h => k_asm); (case i => k_asm); (case a => with_reducible assumption); (case b => with_reducible assumption); (case jd => show _ < _; dsimp only [Around.deeper, Around.in1]; omega); (case ju => show _ < _; dsimp only [Around.deeper, Around.in1]; omega)); k_dflt (intro e h' tk X'); (try dsimp only)))
local macro_rules | `(tactic| k_enter) => `(tactic| ((with_reducible show codeAny _ _ (Code.call (Value.ref 149) _) _ _); k_dflt (refine' Ctr.use (k := 1) (check_byte_spec ?a ?b) ?e ?f ?g ?h ?i rfl rfl rfl rfl ?jd ?ju ?_; (case e => k_asm); (case f => k_asm); (case g => k_asm); (case h => k_asm); (case i => k_asm); (case a => with_reducible assumption); (case b => with_reducible assumption); (case jd => show _ < _; dsimp only [Around.deeper, Around.in1]; omega); (case ju => show _ < _; dsimp only [Around.deeper, Around.in1]; omega)); k_dflt (intro v h' tk hk hf' e F' N'; subst e; clear hk hf'); (try dsimp only)))
theorem all_ok {ns : List Int} (h : ns.foldl (fun (a : Prop) n => a ∧ n ≤ 127) True) : ∀ n ∈ ns, n ≤ 127 := by
  have key : ∀ (ns : List Int) (p : Prop), ns.foldl (fun (a : Prop) n => a ∧ n ≤ 127) p → p ∧ ∀ n ∈ ns, n ≤ 127 := by
    intro ns
    induction ns with
    | nil => exact fun p h => ⟨h, fun _ h => nomatch h⟩
    | cons a r ih =>
      intro p h
      obtain ⟨⟨h1, h2⟩, h3⟩ := ih (p ∧ a ≤ 127) h
      exact ⟨h1, fun n hn => by
        rcases List.mem_cons.mp hn with rfl | hn
        · exact h2
        · exact h3 n hn⟩
  exact (key ns True h).2
set_option maxHeartbeats 4000000 in
theorem data_raise {v : Value} {ns : List Int} (H : Handed s.heap v ns) (hr : ∀ n ∈ ns, 0 ≤ n) (hbad : ∃ n ∈ ns, 127 < n) : CtrX 2 w mean mg mb 128 ⟨[v], []⟩ s := by
  intro A base outer R hh B X T hdp hun hR
  obtain ⟨_, dp, fr, gd, un⟩ := A
  obtain rfl := hh
  obtain rfl := B.stack
  dsimp only at hdp hun
  refine' enterK (binds := [(Str.ofString "data_bytes", v)]) B X T ?k6 ?k7 ?k8 ?k9 ?kB ?_ ?c2 ?c3 ?c4 ?c5
  case k6 => k_is
  case k7 => k_is
  case k8 => ktr_room
  case k9 => exact BindsTo.of_eq rfl
  case kB => exact locs rfl
  case c2 => rfl
  case c3 => rfl
  case c4 => rfl
  case c5 => decide
  intro L' h₁ F N
  try dsimp only
  refine wpAny_execs_cons (For_invV s.heap rfl rfl ?_)
  refine' ld ?k1 ?k2 ?_
  case k1 => k_asm
  case k2 => exact rfl
  refine iter_handed (R := fun (p : Prop) m nx => p ∧ nx = [] ∧ ∀ y, y ≠ Str.ofString "byte" → m y = List.lookup y [(Str.ofString "data_bytes", v)].reverse) (fun p n => p ∧ n ≤ 127) True H rfl (by k_asm) (by k_asm) ⟨trivial, rfl, fun _ _ => rfl⟩ ?turn ?done
  case turn =>
    rintro k t a m₁ nx h tk own hk hoff ⟨hp, rfl, hm⟩ F₁ N₁
    have h0 := hr k hk
    have em : (fun y => if y = Str.ofString "byte" then some (Value.int k t) else m₁ y) = fun y => if y = Str.ofString "byte" then some (Value.int k t) else List.lookup y [(Str.ofString "data_bytes", v)].reverse := by
      funext y
      by_cases e : y = Str.ofString "byte"
      · simp only [if_pos e]
      · simp only [if_neg e]; exact hm y e
    rw [em] at F₁
    clear F N
    rcases bad_or h0 with h1 | h1
    · k_steps
      rename_i F' N'
      exact ⟨_, _, _, _, [], rfl, F', N', (fun _ hq => nomatch hq), (fun _ hq => hq), rfl, ⟨hp, h1⟩, rfl, fun y hy => if_neg hy⟩
    · k_steps
      all_goals exact hR _ _ _ (by assumption)
  case done =>
    rintro m₁ nx h tk ⟨hp, rfl, hm⟩ F₁ N₁
    obtain ⟨n, hn, h1⟩ := hbad
    have := all_ok hp n hn
    omega
local macro_rules | `(tactic| k_enter) => `(tactic| ((with_reducible show codeAny _ _ (Code.call (Value.ref 128) _) _ _); k_dflt (refine' CtrX.use (k := 2) (data_raise ?a ?b ?c) ?e ?f ?h ?i rfl rfl rfl rfl ?jd ?ju ?_; (case e => k_asm); (case f => k_asm); (case h => k_asm); (case i => k_asm); (case a => exact Handed.keeps (by with_reducible assumption) (Fr.keep (by k_asm))); (case b => with_reducible assumption); (case c => with_reducible assumption); (case jd => show _ < _; dsimp only [Around.deeper, Around.in1]; omega); (case ju => show _ < _; dsimp only [Around.deeper, Around.in1]; omega)); k_dflt (intro e h' tk X'); (try dsimp only)))
set_option maxHeartbeats 4000000 in
theorem value_raise {t1 : Tok} {v : Value} {ns : List Int} (H : Handed s.heap v ns) (hr : ∀ n ∈ ns, 0 ≤ n) (hbad : ∃ n ∈ ns, 127 < n) : CtrX 3 w mean mg mb 163 ⟨[.str (Str.ofString "data") t1, v], []⟩ s := by
  intro A base outer R hh B X T hdp hun hR
  obtain ⟨_, dp, fr, gd, un⟩ := A
  obtain rfl := hh
  obtain rfl := B.stack
  dsimp only at hdp hun
  refine' enterK (binds := [(Str.ofString "name", .str (Str.ofString "data") t1), (Str.ofString "value", v)]) B X T ?k6 ?k7 ?k8 ?k9 ?kB ?_ ?c2 ?c3 ?c4 ?c5
  case k6 => k_is
  case k7 => k_is
  case k8 => ktr_room
  case k9 => exact BindsTo.of_eq rfl
  case kB => exact locs rfl
  case c2 => rfl
  case c3 => rfl
  case c4 => rfl
  case c5 => decide
  intro L' h₁ F N
  try dsimp only
  k_steps
  all_goals exact hR _ _ _ (by assumption)
end
end Mine
namespace Mine
theorem filled_LX2 : PySem.Challenge.rw_ae6013_01 = PySem.Challenge.rw_ae6013_01 → hd.heap_39 = hd.heap_39 → True := by
  k_fill
  intro _ _; trivial
local macro_rules | `(tactic| k_room) => `(tactic| ktr_room)
local macro_rules | `(tactic| k_units) => `(tactic| ktr_units)
section
variable {w : World} {mean : ExcName → Option Value} {mg mb : Str → Option Value} {s : Shared}
local macro_rules | `(tactic| walk_at "leaving ref") => `(tactic| (k_here; first
  | (refine' leave_new ?k1 ?k0 ?k2 ?k3 rfl ?_; (case k0 => assumption); (case k2 => assumption); (case k1 => assumption); (case k3 => k_asm); k_whole; intro h' X'; (try dsimp only at X' ⊢))
  | (refine' leave_flies ?k1 ?k2 ?k3 ?_; (case k3 => with_reducible assumption); (case k1 => assumption); (case k2 => assumption); k_whole; intro h' X'; (try dsimp only at X' ⊢))))
local macro_rules | `(tactic| walk_at "subscriptTail") => `(tactic| (k_here; (with_reducible show wpAny _ _ (subscriptTail _ _ (Value.ref _) (Value.str _ _)) _ _ _); k_dflt (refine od_item (knd := PySem.strKind _ _) (by k_asm) (by with_reducible assumption) (strKind_is _ _ _ _) (by rfl) ?_)))
local macro_rules | `(tactic| walk_at "getMethod ref") => `(tactic| (k_here; (with_reducible show wpAny _ _ (getMethod (Value.ref _) (Str.ofString "items") _) _ _ _); k_dflt (refine od_method (knd := PySem.strKind _ _) PySem.F.slot_dict_items PySem.F.type_dict_items (by k_asm) (by with_reducible assumption) ?_)))
local macro_rules | `(tactic| walk_at "call builtin:dict.items") => `(tactic| (k_here; k_dflt (refine items_call (by k_asm) (by k_asm) (by with_reducible assumption) (by with_reducible assumption) ?_; intro v' h' F' N' l1; (try k_lt l1))))
local macro_rules | `(tactic| walk_at "exec For Tuple Call cons nil") => `(tactic| (k_here; (rename Fr _ _ _ _ => lF'); (with_unfolding_all refine' For_turns lF' ?_); k_whole))
local macro_rules | `(tactic| walk_at "pyIter ref") => `(tactic| (k_here; (with_reducible show wpAny _ _ (pyIter (Value.ref _)) (fun it s₂ => TurnsAt _ _ _ _ _ _ _ _ _ it s₂) _ _); (with_unfolding_all refine' items_old (xs := [_, _, _]) ?h ?F ?N ?v ?d ?x ?_; (case h => with_unfolding_all rfl); (case F => k_asm); (case N => k_asm); (case v => exact ⟨_, News.get (by k_asm) (by k_mem), rfl, rfl⟩); (case d => with_reducible assumption); (case x => rfl); k_whole); intro i' l1; (try k_lt l1)))
local macro_rules | `(tactic| walk_at "getMethod ref") => `(tactic| (k_here; (with_reducible show wpAny _ _ (getMethod (Value.ref 29) (Str.ofString "get") _) _ _ _); k_dflt (refine' topMethod_K PySem.F.slot_dict_get PySem.F.type_dict_get ?F ?X ?l ?k ?_; (case F => k_asm); (case X => k_asm); (case l => k_is); (case k => k_keys))))
local macro_rules | `(tactic| walk_at "call builtin:dict.get") => `(tactic| (k_here; (with_reducible show wpAny _ _ (call (Value.builtin "dict.get") [Value.ref 29, _]) _ _ _); k_dflt (refine' topGet_K ?F ?X ?l ?k ?e ?o ?_; (case F => k_asm); (case X => k_asm); (case l => k_is); (case k => k_keys); (case e => k_is); (case o => decide)); (try dsimp only)))
local macro_rules | `(tactic| walk_at "compareOp NotIn str ref") => `(tactic| (k_here; (with_reducible show wpAny _ _ (compareOp CmpOp.NotIn (Value.str _ _) (Value.ref 53)) _ _ _); k_dflt (refine' topNotInTup (xs := [Str.ofString "data", Str.ofString "type", Str.ofString "time"]) (b := true) ?F ?X ?l ?s ?b ?_; (case F => k_asm); (case X => k_asm); (case l => k_is); (case s => kde_strs); (case b => decide))))
local macro_rules | `(tactic| k_enter) => `(tactic| ((with_reducible show codeAny _ _ (Code.call (Value.ref 163) { pos := [Value.str (Str.ofString "type") _, Value.str _ _] }) _ _); k_dflt (refine' Ctr.use (k := 3) (check_value_type) ?e ?f ?g ?h ?i rfl rfl rfl rfl ?jd ?ju ?_; (case e => k_asm); (case f => k_asm); (case g => k_asm); (case h => k_asm); (case i => k_asm);  (case jd => show _ < _; dsimp only [Around.deeper, Around.in1]; omega); (case ju => show _ < _; dsimp only [Around.deeper, Around.in1]; omega)); k_dflt (intro v h' tk hk hf' e F' N'; subst e; clear hk hf'); (try dsimp only)))
local macro_rules | `(tactic| k_enter) => `(tactic| ((with_reducible show codeAny _ _ (Code.call (Value.ref 163) { pos := [Value.str (Str.ofString "time") _, Value.int _ _] }) _ _); k_dflt (refine' Ctr.use (k := 3) (check_value_time) ?e ?f ?g ?h ?i rfl rfl rfl rfl ?jd ?ju ?_; (case e => k_asm); (case f => k_asm); (case g => k_asm); (case h => k_asm); (case i => k_asm);  (case jd => show _ < _; dsimp only [Around.deeper, Around.in1]; omega); (case ju => show _ < _; dsimp only [Around.deeper, Around.in1]; omega)); k_dflt (intro v h' tk hk hf' e F' N'; subst e; clear hk hf'); (try dsimp only)))
local macro_rules | `(tactic| k_enter) => `(tactic| ((with_reducible show codeAny _ _ (Code.call (Value.ref 163) _) _ _); k_dflt (refine' CtrX.use (k := 3) (value_raise ?a ?b ?c) ?e ?f ?h ?i rfl rfl rfl rfl ?jd ?ju ?_; (case e => k_asm); (case f => k_asm); (case h => k_asm); (case i => k_asm); (case a => exact Handed.keeps (by with_reducible assumption) (Fr.keep (by k_asm))); (case b => with_reducible assumption); (case c => with_reducible assumption); (case jd => show _ < _; dsimp only [Around.deeper, Around.in1]; omega); (case ju => show _ < _; dsimp only [Around.deeper, Around.in1]; omega)); k_dflt (intro e h' tk X'); (try dsimp only)))
set_option maxHeartbeats 4000000 in
theorem msg_raise {dm : Addr} {t1 t2 : Tok} {tm : Int} {v : Value} {ns : List Int} (hd : s.heap.DictOf (strKind P w) dm [(Str.ofString "type", .str (Str.ofString "sysex") t1), (Str.ofString "time", .int tm t2), (Str.ofString "data", v)]) (lo : (dm == sysModules) = false)
    (H : Handed s.heap v ns) (hr : ∀ n ∈ ns, 0 ≤ n) (hbad : ∃ n ∈ ns, 127 < n) : CtrX 4 w mean mg mb 170 ⟨[.ref dm], []⟩ s := by
  intro A base outer R hh B X T hdp hun hR
  obtain ⟨_, dp, fr, gd, un⟩ := A
  obtain rfl := hh
  obtain rfl := B.stack
  dsimp only at hdp hun
  refine' enterK (binds := [(Str.ofString "msgdict", .ref dm)]) B X T ?k6 ?k7 ?k8 ?k9 ?kB ?_ ?c2 ?c3 ?c4 ?c5
  case k6 => k_is
  case k7 => k_is
  case k8 => ktr_room
  case k9 => exact BindsTo.of_eq rfl
  case kB => exact locs rfl
  case c2 => rfl
  case c3 => rfl
  case c4 => rfl
  case c5 => decide
  intro L' h₁ F N
  try dsimp only
  k_steps
  all_goals exact hR _ _ _ (by assumption)
end
end Mine
namespace Mine
theorem filled_LX3 : PySem.Challenge.rw_ae6013_01 = PySem.Challenge.rw_ae6013_01 → hd.heap_39 = hd.heap_39 → True := by
  k_fill
  intro _ _; trivial
local macro_rules | `(tactic| k_room) => `(tactic| ktr_room)
local macro_rules | `(tactic| k_units) => `(tactic| ktr_units)
section
variable {w : World} {mean : ExcName → Option Value} {mg mb : Str → Option Value} {s : Shared}
local macro_rules | `(tactic| walk_at "leaving ref") => `(tactic| (k_here; first
  | (refine' leave_new ?k1 ?k0 ?k2 ?k3 rfl ?_; (case k0 => assumption); (case k2 => assumption); (case k1 => assumption); (case k3 => k_asm); k_whole; intro h' X'; (try dsimp only at X' ⊢))
  | (refine' leave_flies ?k1 ?k2 ?k3 ?_; (case k3 => with_reducible assumption); (case k1 => assumption); (case k2 => assumption); k_whole; intro h' X'; (try dsimp only at X' ⊢))))
theorem below_under {dp un dp' un' : Nat} {outer : List Env} {gd gd' : Option (List Code)} {base h : Heap} (B : Below ⟨none, dp, some outer, gd, un⟩ base outer h) : Below ⟨none, dp', some outer, gd', un'⟩ base outer h := ⟨rfl, B.stays, B.frames⟩
local macro_rules | `(tactic| walk_at "call builtin:dict.pop") => `(tactic| (k_here; (with_reducible show wpAny _ _ (call (Value.builtin "dict.pop") [Value.ref _, Value.str _ _, _]) _ _ _); k_dflt (refine' pop_absent (knd := PySem.strKind _ _) ?N ?m ?d ?o (strKind_is _ _ _ _) (by rfl) (PySem.F.args_dict_pop_3 _ _ _) ?l ?_; (case N => k_asm); (case m => k_mem); (case d => k_asm); (case o => k_asm); (case l => rfl))))
local macro_rules | `(tactic| walk_at "call type:tuple") => `(tactic| (k_here; (with_reducible show wpAny _ _ (call (Value.type "tuple") [_]) _ _ _); k_dflt (refine' tuple_K ?F ?N ?H ?hh ?hn ?_ ?_; (case F => k_asm); (case N => k_asm); (case H => with_reducible assumption); (case hh => rfl); (case hn => with_reducible assumption)); all_goals (first | (with_reducible intro t vs h' tk F' N' l1 hi; (try k_lt l1)) | (with_reducible intro t vs e ht hi))))
local macro_rules | `(tactic| k_enter) => `(tactic| ((with_reducible show codeAny _ _ (Code.call (Value.ref 170) _) _ _); k_dflt (refine' CtrX.use (k := 4) (msg_raise ?a ?b ?c ?d ?e9) ?e ?f ?h ?i rfl rfl rfl rfl ?jd ?ju ?_; (case e => k_asm); (case f => k_asm); (case h => k_asm); (case i => k_asm); (case a => exact kda_dict (by k_asm) (by k_mem) (by k_asm)); (case b => k_asm); (case c => (first | exact Handed.tuple (IsTup.keeps (by with_reducible assumption) (Fr.keep (by k_asm))) (by with_reducible assumption) | exact Handed.tuple (News.isTup (by k_asm) (by k_mem)) (by with_reducible assumption))); (case d => with_reducible assumption); (case e9 => with_reducible assumption); (case jd => show _ < _; dsimp only [Around.deeper, Around.in1]; omega); (case ju => show _ < _; dsimp only [Around.deeper, Around.in1]; omega)); k_dflt (intro e h' tk X'); (try dsimp only)))
local macro_rules | `(tactic| k_enter) => `(tactic| ((with_reducible show codeAny _ _ (Code.call (Value.ref 93) _) _ _); k_dflt (refine' Ctr.use (k := 1) (make_spec ?a ?b ?c) ?e ?f ?g ?h ?i rfl rfl rfl rfl ?jd ?ju ?_; (case e => k_asm); (case f => k_asm); (case g => k_asm); (case h => k_asm); (case i => k_asm); (case a => exact kda_dict (by k_asm) (by k_mem) (by k_asm)); (case b => exact Nat.le_of_ble_eq_true rfl); (case c => k_asm); (case jd => show _ < _; dsimp only [Around.deeper, Around.in1]; omega); (case ju => show _ < _; dsimp only [Around.deeper, Around.in1]; omega)); k_dflt (intro v' h' tk' hk hf' ⟨d', o', e, hd, hlo, hl, hdo⟩ F' N'; subst e; have l1 := hf' _ hd; replace N' := news_add N' hl l1; clear hl hk hf'; obtain ⟨_, _, l1⟩ := l1; (try dsimp only [AllNe] at l1); (try dsimp only [merged, List.foldl] at hdo); (try kob_lit)); (try dsimp only)))
set_option maxHeartbeats 4000000 in
theorem made1x {tk0 : Tok} {v : Value} {ns : List Int} (H : Handed s.heap v ns) (hr : ∀ n ∈ ns, 0 ≤ n) (hbad : ∃ n ∈ ns, 127 < n) (hn : ns.length ≤ 6) : CtrX 6 w mean mg mb 391 ⟨[.str (Str.ofString "sysex") tk0], [(Str.ofString "data", v)]⟩ s := by
  intro A base outer R hh B X T hdp hun hR
  obtain ⟨_, dp, fr, gd, un⟩ := A
  obtain rfl := hh
  obtain rfl := B.stack
  dsimp only at hdp hun
  refine make_own (fI := 330) X (by k_is) (by k_is) (by k_is) ?_
  intro x dx h' hlt hsub hsz N0
  rw [under_make]
  replace B := below_under (dp' := dp + 1) (un' := un + 1) (gd' := gd) B
  refine' enterKW (hb := s.heap) (ex := [(Str.ofString "data", v)]) (front := [(Str.ofString "self", .ref x), (Str.ofString "kind", .str (Str.ofString "sysex") tk0), (Str.ofString "skip_checks", .bool false)]) (nm := Str.ofString "args") hsub hsz N0 X T ?k6 ?k7 ?k8 ?kn ?kp ?kk ?kl ?_ ?c2 ?c3 ?c4 ?c5
  case k6 => k_is
  case k7 => k_is
  case k8 => show _ < _; dsimp only; omega
  case kn => exact rfl
  case kp => exact rfl
  case kk => exact fun _ => rfl
  case kl => exact fun _ => locs rfl
  case c2 => rfl
  case c3 => rfl
  case c4 => rfl
  case c5 => decide
  intro D o L' h₁ tk l1 lo hd F N
  k_lt l1
  k_lt2 hlt
  try dsimp only
  k_steps
  all_goals exact hR _ _ _ (by assumption)
set_option maxHeartbeats 4000000 in
theorem made3x {tk0 : Tok} {v : Value} {ns : List Int} (H : Handed s.heap v ns) (hr : ∀ n ∈ ns, 0 ≤ n) (hbad : ∃ n ∈ ns, 127 < n) (hn : ns.length ≤ 6) : CtrX 6 w mean mg mb 391 ⟨[], [(Str.ofString "type", .str (Str.ofString "sysex") tk0), (Str.ofString "data", v)]⟩ s := by
  intro A base outer R hh B X T hdp hun hR
  obtain ⟨_, dp, fr, gd, un⟩ := A
  obtain rfl := hh
  obtain rfl := B.stack
  dsimp only at hdp hun
  refine make_own (fI := 330) X (by k_is) (by k_is) (by k_is) ?_
  intro x dx h' hlt hsub hsz N0
  rw [under_make]
  replace B := below_under (dp' := dp + 1) (un' := un + 1) (gd' := gd) B
  refine' enterKW (hb := s.heap) (ex := [(Str.ofString "type", .str (Str.ofString "sysex") tk0), (Str.ofString "data", v)]) (front := [(Str.ofString "self", .ref x), (Str.ofString "kind", .none), (Str.ofString "skip_checks", .bool false)]) (nm := Str.ofString "args") hsub hsz N0 X T ?k6 ?k7 ?k8 ?kn ?kp ?kk ?kl ?_ ?c2 ?c3 ?c4 ?c5
  case k6 => k_is
  case k7 => k_is
  case k8 => show _ < _; dsimp only; omega
  case kn => exact rfl
  case kp => exact rfl
  case kk => exact fun _ => rfl
  case kl => exact fun _ => locs rfl
  case c2 => rfl
  case c3 => rfl
  case c4 => rfl
  case c5 => decide
  intro D o L' h₁ tk l1 lo hd F N
  k_lt l1
  k_lt2 hlt
  try dsimp only
  k_steps
  all_goals exact hR _ _ _ (by assumption)
end
end Mine
namespace Mine
theorem filled_LX4 : PySem.Challenge.rw_ae6013_01 = PySem.Challenge.rw_ae6013_01 → hd.heap_39 = hd.heap_39 → True := by
  k_fill
  intro _ _; trivial
local macro_rules | `(tactic| k_room) => `(tactic| ktr_room)
local macro_rules | `(tactic| k_units) => `(tactic| ktr_units)
section
variable {w : World} {mean : ExcName → Option Value} {mg mb : Str → Option Value} {s : Shared}
local macro_rules | `(tactic| walk_at "leaving ref") => `(tactic| (k_here; first
  | (refine' leave_new ?k1 ?k0 ?k2 ?k3 rfl ?_; (case k0 => assumption); (case k2 => assumption); (case k1 => assumption); (case k3 => k_asm); k_whole; intro h' X'; (try dsimp only at X' ⊢))
  | (refine' leave_flies ?k1 ?k2 ?k3 ?_; (case k3 => with_reducible assumption); (case k1 => assumption); (case k2 => assumption); k_whole; intro h' X'; (try dsimp only at X' ⊢))))
local macro_rules | `(tactic| k_inst) => `(tactic| exact Msg.inst (Msg.keeps (by with_reducible assumption) (Fr.keep (by k_asm))))
set_option maxHeartbeats 4000000 in
theorem from_dictx {d : Addr} {tk0 : Tok} {v : Value} {ns : List Int} (lo : (d == sysModules) = false) (hd : s.heap.DictOf (strKind P w) d [(Str.ofString "type", .str (Str.ofString "sysex") tk0), (Str.ofString "data", v)]) (H : Handed s.heap v ns) (hr : ∀ n ∈ ns, 0 ≤ n) (hbad : ∃ n ∈ ns, 127 < n) (hn : ns.length ≤ 6) :
    CtrX 7 w mean mg mb 282 ⟨[.ref 391, .ref d], []⟩ s := by
  intro A base outer R hh B X T hdp hun hR
  obtain ⟨_, dp, fr, gd, un⟩ := A
  obtain rfl := hh
  obtain rfl := B.stack
  dsimp only at hdp hun
  refine' enterK (binds := [(Str.ofString "cls", .ref 391), (Str.ofString "data", .ref d)]) B X T ?k6 ?k7 ?k8 ?k9 ?kB ?_ ?c2 ?c3 ?c4 ?c5
  case k6 => k_is
  case k7 => k_is
  case k8 => ktr_room
  case k9 => exact BindsTo.of_eq rfl
  case kB => exact locs rfl
  case c2 => rfl
  case c3 => rfl
  case c4 => rfl
  case c5 => decide
  intro L' h₁ F N
  try dsimp only
  refine wpAny_execs_cons ?_
  rw [exec_Return_some]
  refine wpAny_bind (wpAny_standAt (wpAny_bind ?_))
  refine wpAny_Call_Name_kw (ld F rfl ?_)
  refine' cls_star0 F N X ?k ?v ?d ?l ?z rfl rfl (by decide) ?_
  case k => k_is
  case v => rfl
  case d => assumption
  case l => assumption
  case z => rw [sizeLine_eq]; exact Nat.le_of_ble_eq_true rfl
  intro h' F' N'
  refine wpAny_call ?_
  refine' CtrX.use (k := 6) (made3x (H.keeps F'.keep) hr hbad hn) B F' X T rfl rfl rfl rfl ?jd ?ju ?_
  case jd => show _ < _; dsimp only [Around.deeper, Around.in1]; omega
  case ju => show _ < _; dsimp only [Around.deeper, Around.in1]; omega
  intro e h'' tk' X'
  exact leave_flies B F' X' fun h3 X3 => hR _ _ _ X3
section
local macro_rules | `(tactic| walk_at "truthy ref") => `(tactic| (k_here; k_dflt (refine' truthy_led ?N ?m ?d ?o ?z ?b ?_; (case N => k_asm); (case m => k_mem); (case d => k_asm); (case o => k_asm); (case z => exact Nat.le_of_ble_eq_true rfl); (case b => first | exact (rfl : _ = true) | exact (rfl : _ = false))); intro tk'))
local macro_rules | `(tactic| walk_at "getMethod ref") => `(tactic| (k_here; (with_reducible show wpAny _ _ (getMethod (Value.ref _) (Str.ofString "copy") _) _ _ _); k_dflt (refine od_method (knd := PySem.strKind _ _) PySem.F.slot_dict_copy PySem.F.type_dict_copy (by k_asm) (by with_reducible assumption) ?_)))
local macro_rules | `(tactic| walk_at "getMethod ref") => `(tactic| (k_here; (with_reducible show wpAny _ _ (getMethod (Value.ref _) (Str.ofString "update") _) _ _ _); k_dflt (refine kob_method (knd := PySem.strKind _ _) PySem.F.slot_dict_update BA.type_dict_update (by k_asm) (by k_mem) (by k_asm) ?_)))
local macro_rules | `(tactic| walk_at "call builtin:dict.copy") => `(tactic| (k_here; k_dflt (refine dict_copy_lo (by k_asm) (by k_asm) (od_dict (by k_asm) (by with_reducible assumption)) (by k_asm) (Top.nolimit (by k_asm)) (by kob_size) ?_; intro d' h' o' F' N' l1 hd' lo'; (try k_lt l1))))
local macro_rules | `(tactic| walk_at "call builtin:dict.update") => `(tactic| (k_here; (with_reducible show wpAny _ _ (call (Value.builtin "dict.update") [Value.ref _, Value.ref _]) _ _ _); k_dflt (refine' dict_update_led ?F ?N ?U ?d ?p ?o ?l ?q ?z ?_; (case F => k_asm); (case N => k_asm); (case U => k_updF); (case d => k_asm); (case p => k_mem); (case o => k_asm); (case l => k_asm); (case q => (refine neN ?_; (try dsimp only); omega)); (case z => rw [sizeLine_eq]; exact Nat.le_of_ble_eq_true rfl)); intro h' o' F' N' hd'; (try dsimp only [merged, List.foldl] at hd'); (try kob_lit); (try dsimp only at N')))
local macro_rules | `(tactic| k_enter) => `(tactic| ((with_reducible show codeAny _ _ (Code.call (Value.ref 170) _) _ _); k_dflt (refine' CtrX.use (k := 4) (msg_raise ?a ?b ?c ?d ?e9) ?e ?f ?h ?i rfl rfl rfl rfl ?jd ?ju ?_; (case e => k_asm); (case f => k_asm); (case h => k_asm); (case i => k_asm); (case a => exact kda_dict (by k_asm) (by k_mem) (by k_asm)); (case b => k_asm); (case c => exact Handed.barr (by with_reducible assumption) (News.get (by k_asm) (by k_mem))); (case d => with_reducible assumption); (case e9 => with_reducible assumption); (case jd => show _ < _; dsimp only [Around.deeper, Around.in1]; omega); (case ju => show _ < _; dsimp only [Around.deeper, Around.in1]; omega)); k_dflt (intro e h' tk X'); (try dsimp only)))
variable {a dx f t : Addr} {n : Nat} {hs : Int} {tf t1 t2 : Tok} {tm : Int} {vs : List Value} {ns ms : List Int}
set_option maxHeartbeats 4000000 in
theorem copyGx {v : Value} (M : Msg w s.heap a dx f t n hs tf t1 t2 tm vs ms) (H : Handed s.heap v ns) (h256 : ∀ n ∈ ns, 0 ≤ n ∧ n < 256) (hbad : ∃ n ∈ ns, 127 < n) (hn : ns.length ≤ 6) :
    CtrXG 8 w mean mg mb 346 ⟨[.ref a], [(Str.ofString "data", v)]⟩ s := by
  intro A base outer R hh B X T hdp hun hR
  obtain ⟨_, dp, fr, gd, un⟩ := A
  obtain rfl := hh
  obtain rfl := B.stack
  dsimp only at hdp hun
  have hr : ∀ n ∈ ns, 0 ≤ n := fun n h => (h256 n h).1
  refine' enterGW (hb := s.heap) (news := []) (ex := [(Str.ofString "data", v)]) (front := [(Str.ofString "self", .ref a), (Str.ofString "skip_checks", .bool false)]) (nm := Str.ofString "overrides") (fun _ _ e => e) (Nat.le_refl _) (fun _ h => nomatch h) X T ?k6 ?k7 ?k8 ?kn ?kp ?kk ?kl ?_ ?c2 ?c3 ?c4 ?c5
  case k6 => k_is
  case k7 => k_is
  case k8 => show _ < _; dsimp only; omega
  case kn => exact rfl
  case kp => exact rfl
  case kk => exact fun _ => rfl
  case kl => exact fun _ => locs rfl
  case c2 => rfl
  case c3 => rfl
  case c4 => rfl
  case c5 => decide
  intro D o L' h₁ tk l1 lo hd F N
  have Mf := M.fld
  have Ml := M.low
  try dsimp only
  refine G_execs_cons (G_any ?_)
  k_steps
  dsimp only
  refine G_execs_cons (G_any ?_)
  k_steps
  dsimp only
  refine G_execs_cons (G_If (G_any ?_))
  k_steps
  simp only [if_true]
  refine G_execs_cons (G_Assign_Sub (G_Call_Name ?_))
  k_steps
  refine G_callWith_type ?_
  k_steps
  rename Fr _ _ _ _ => Ff
  rename News _ _ _ _ => Nf
  refine BA.call_G (H.keeps Ff.keep) h256 (by rw [sizeLine_eq]; omega) fun l h' hl hk hb => ?_
  have Fg := fr_keep Ff hk
  have l2 := allNe_of hl Nf
  have Ng := news_add (news_keep Nf hk) hb ⟨none_of_keep Ff hl, ne_local Ff hl, l2⟩
  dsimp only [AllNe] at l2
  clear Ff Nf hk
  k_steps
  dsimp only
  refine G_execs_nil ?_
  dsimp only
  refine G_execs_cons (G_any ?_)
  k_steps
  dsimp only
  refine G_execs_cons (G_any ?_)
  k_steps
  dsimp only
  refine G_execs_cons (G_any ?_)
  k_steps
  all_goals exact hR _ _ _ (by assumption)
end
end
end Mine
namespace Mine
theorem filled_LX5 : PySem.Challenge.rw_ae6013_01 = PySem.Challenge.rw_ae6013_01 → hd.heap_39 = hd.heap_39 → True := by
  k_fill
  intro _ _; trivial
local macro_rules | `(tactic| k_room) => `(tactic| ktr_room)
local macro_rules | `(tactic| k_units) => `(tactic| ktr_units)
section
variable {w : World} {mean : ExcName → Option Value} {mg mb : Str → Option Value} {s : Shared}
local macro_rules | `(tactic| walk_at "leaving ref") => `(tactic| (k_here; first
  | (refine' leave_new ?k1 ?k0 ?k2 ?k3 rfl ?_; (case k0 => assumption); (case k2 => assumption); (case k1 => assumption); (case k3 => k_asm); k_whole; intro h' X'; (try dsimp only at X' ⊢))
  | (refine' leave_flies ?k1 ?k2 ?k3 ?_; (case k3 => with_reducible assumption); (case k1 => assumption); (case k2 => assumption); k_whole; intro h' X'; (try dsimp only at X' ⊢))))
local macro_rules | `(tactic| k_inst) => `(tactic| exact Msg.inst (Msg.keeps (by with_reducible assumption) (Fr.keep (by k_asm))))
local macro_rules | `(tactic| walk_at "Exists") => `(tactic| (k_here; refine made_any (by k_asm) (by first | k_asm | exact News.nil) (Top.nolimit (by k_asm)) (by rfl) (of_decide_eq_true (by rfl)) ?_; intro h' o' F' N' l1 lo' hd'; (try k_lt l1)))
local macro_rules | `(tactic| walk_at "call ref") => `(tactic| (k_here; (with_reducible show wpAny _ _ (call (Value.ref 391) _ _) _ _ _); refine wpAny_call ?_; k_enter))
variable {a dx f t : Addr} {n : Nat} {hs : Int} {tf t1 t2 tk0 : Tok} {tm : Int} {vs : List Value} {ns ms : List Int} {v : Value}
section
local macro_rules | `(tactic| k_enter) => `(tactic| ((with_reducible show codeAny _ _ (Code.call (Value.ref 391) _) _ _); k_dflt (refine' CtrX.use (k := 6) (made1x ?a ?b ?c ?d) ?e ?f ?h ?i rfl rfl rfl rfl ?jd ?ju ?_; (case e => k_asm); (case f => k_asm); (case h => k_asm); (case i => k_asm); (case a => exact Handed.keeps (by with_reducible assumption) (Fr.keep (by k_asm))); (case b => with_reducible assumption); (case c => with_reducible assumption); (case d => with_reducible assumption); (case jd => show _ < _; dsimp only [Around.deeper, Around.in1]; omega); (case ju => show _ < _; dsimp only [Around.deeper, Around.in1]; omega)); k_dflt (intro e h' tk X'); (try dsimp only)))
set_option maxHeartbeats 4000000 in
theorem door0x (H : Handed s.heap v ns) (hr : ∀ n ∈ ns, 0 ≤ n) (hbad : ∃ n ∈ ns, 127 < n) (hn : ns.length ≤ 6) : CtrX 7 w mean mg mb 421 ⟨[.int 0 tk0, v, .ref a], []⟩ s := by
  intro A base outer R hh B X T hdp hun hR
  obtain ⟨_, dp, fr, gd, un⟩ := A
  obtain rfl := hh
  obtain rfl := B.stack
  dsimp only at hdp hun
  refine' enterK (binds := [(Str.ofString "door", .int 0 tk0), (Str.ofString "handed", v), (Str.ofString "thing", .ref a)]) B X T ?k6 ?k7 ?k8 ?k9 ?kB ?_ ?c2 ?c3 ?c4 ?c5
  case k6 => k_is
  case k7 => k_is
  case k8 => ktr_room
  case k9 => exact BindsTo.of_eq rfl
  case kB => exact locs rfl
  case c2 => rfl
  case c3 => rfl
  case c4 => rfl
  case c5 => decide
  intro L' h₁ F N
  try dsimp only
  k_steps
  all_goals exact hR _ _ _ (by assumption)
end
section
local macro_rules | `(tactic| walk_at "callWith ref") => `(tactic| (k_here; k_dflt (refine' callWith_M ?k1 ?k2 ?k3 ?k4 ?_; (case k1 => k_asm); (case k2 => k_asm); (case k3 => k_mem); (case k4 => k_is); k_whole)))
local macro_rules | `(tactic| k_enter) => `(tactic| ((with_reducible show codeAny _ _ (Code.call (Value.ref 282) _) _ _); k_dflt (refine' CtrX.use (k := 7) (from_dictx ?a ?b ?c ?d ?e1 ?e2) ?e ?f ?h ?i rfl rfl rfl rfl ?jd ?ju ?_; (case e => k_asm); (case f => k_asm); (case h => k_asm); (case i => k_asm); (case a => k_asm); (case b => exact kda_dict (by k_asm) (by k_mem) (by k_asm)); (case c => exact Handed.keeps (by with_reducible assumption) (Fr.keep (by k_asm))); (case d => with_reducible assumption); (case e1 => with_reducible assumption); (case e2 => with_reducible assumption); (case jd => show _ < _; dsimp only [Around.deeper, Around.in1]; omega); (case ju => show _ < _; dsimp only [Around.deeper, Around.in1]; omega)); k_dflt (intro e h' tk X'); (try dsimp only)))
set_option maxHeartbeats 4000000 in
theorem door1x (H : Handed s.heap v ns) (hr : ∀ n ∈ ns, 0 ≤ n) (hbad : ∃ n ∈ ns, 127 < n) (hn : ns.length ≤ 6) : CtrX 8 w mean mg mb 421 ⟨[.int 1 tk0, v, .ref a], []⟩ s := by
  intro A base outer R hh B X T hdp hun hR
  obtain ⟨_, dp, fr, gd, un⟩ := A
  obtain rfl := hh
  obtain rfl := B.stack
  dsimp only at hdp hun
  refine' enterK (binds := [(Str.ofString "door", .int 1 tk0), (Str.ofString "handed", v), (Str.ofString "thing", .ref a)]) B X T ?k6 ?k7 ?k8 ?k9 ?kB ?_ ?c2 ?c3 ?c4 ?c5
  case k6 => k_is
  case k7 => k_is
  case k8 => ktr_room
  case k9 => exact BindsTo.of_eq rfl
  case kB => exact locs rfl
  case c2 => rfl
  case c3 => rfl
  case c4 => rfl
  case c5 => decide
  intro L' h₁ F N
  try dsimp only
  k_steps
  all_goals exact hR _ _ _ (by assumption)
end
set_option maxHeartbeats 4000000 in
theorem door3x (M : Msg w s.heap a dx f t n hs tf t1 t2 tm vs ms) (H : Handed s.heap v ns) (hr : ∀ n ∈ ns, 0 ≤ n ∧ n < 256) (hbad : ∃ n ∈ ns, 127 < n) (hn : ns.length ≤ 6) : CtrXG 9 w mean mg mb 421 ⟨[.int 3 tk0, v, .ref a], []⟩ s := by
  intro A base outer R hh B X T hdp hun hR
  obtain ⟨_, dp, fr, gd, un⟩ := A
  obtain rfl := hh
  obtain rfl := B.stack
  dsimp only at hdp hun
  refine' enterG (binds := [(Str.ofString "door", .int 3 tk0), (Str.ofString "handed", v), (Str.ofString "thing", .ref a)]) B X T ?k6 ?k7 ?k8 ?k9 ?kB ?_ ?c2 ?c3 ?c4 ?c5
  case k6 => k_is
  case k7 => k_is
  case k8 => ktr_room
  case k9 => exact BindsTo.of_eq rfl
  case kB => exact locs rfl
  case c2 => rfl
  case c3 => rfl
  case c4 => rfl
  case c5 => decide
  intro L' h₁ F N
  try dsimp only
  refine G_execs_cons (G_any ?_)
  k_steps
  dsimp only
  refine G_execs_cons (G_any ?_)
  k_steps
  dsimp only
  refine G_execs_cons (G_any ?_)
  k_steps
  dsimp only
  refine G_execs_cons (G_Return (G_MethodCall ?_))
  k_steps
  rename Fr _ _ _ _ => Ff
  rename News _ _ _ _ => Nf
  obtain ⟨fo, hfo, fd, hfd⟩ : ∃ o, (hd.heap_39 w.params).lookup 346 = some o ∧ ∃ fd, o.data = .func fd := ⟨_, by k_is, _, rfl⟩
  refine G_callWith_fn (evalArgs_kw2_nil rfl (kwAll_cons (ld Ff rfl (kwAll_nil ⟨⟨Ff.keep _ _ (X 346 _ hfo), hfd⟩, ?_⟩))))
  refine G_call ?_
  refine' CtrXG.use (k := 8) (copyGx (M.keeps Ff.keep) (H.keeps Ff.keep) hr hbad hn) B Ff X T rfl rfl rfl rfl ?xjd ?xju ?_
  case xjd => show _ < _; dsimp only [Around.deeper, Around.in1]; omega
  case xju => show _ < _; dsimp only [Around.deeper, Around.in1]; omega
  intro e h' tk' X'
  exact leave_flies B Ff X' fun h3 X3 => hR _ _ _ X3
end
end Mine
namespace Mine
theorem filled_LX6 : PySem.Challenge.rw_ae6013_01 = PySem.Challenge.rw_ae6013_01 → hd.heap_39 = hd.heap_39 → True := by
  k_fill
  intro _ _; trivial
local macro_rules | `(tactic| k_room) => `(tactic| ktr_room)
local macro_rules | `(tactic| k_units) => `(tactic| ktr_units)
section
variable {w : World} {mean : ExcName → Option Value} {mg mb : Str → Option Value} {s : Shared}
local macro_rules | `(tactic| walk_at "leaving ref") => `(tactic| (k_here; first
  | (refine' leave_new ?k1 ?k0 ?k2 ?k3 rfl ?_; (case k0 => assumption); (case k2 => assumption); (case k1 => assumption); (case k3 => k_asm); k_whole; intro h' X'; (try dsimp only at X' ⊢))
  | (refine' leave_flies ?k1 ?k2 ?k3 ?_; (case k3 => with_reducible assumption); (case k1 => assumption); (case k2 => assumption); k_whole; intro h' X'; (try dsimp only at X' ⊢))))
local macro_rules | `(tactic| k_inst) => `(tactic| exact Msg.inst (Msg.keeps (by with_reducible assumption) (Fr.keep (by k_asm))))
variable {a dx f t : Addr} {n : Nat} {hs : Int} {tf t1 t2 tk0 tk1 : Tok} {tm : Int} {vs : List Value} {ns ms : List Int} {v : Value}
theorem old_in {prog : Program} {w : World} {A : Around} {E : Value → Shared → Prop} {s : Shared} {h₀ : Heap} {L d : Addr} {m : Str → Option Value} {kvs : List (Str × Value)} {k : Str} {t : Tok} {Q : Value → Shared → Prop} (F : Fr h₀ L s.heap m) (hd : h₀.DictOf (strKind prog w) d kvs) (lo : (d == sysModules) = false) (hb : (valueAt kvs k).isSome = true) (h : ∀ tk, Q (.bool false) { s with toks := tk }) :
    wpAny (model prog w) A (compareOp .NotIn (.str k t) (.ref d)) Q E s := od_notin F hd lo (strKind_is _ _ _ _) true hb (h _)
local macro_rules | `(tactic| walk_at "compareOp NotIn str ref") => `(tactic| (k_here; k_dflt (refine' old_in ?F ?d ?l ?b ?_; (case F => k_asm); (case d => with_reducible assumption); (case l => with_reducible assumption); (case b => rfl)); intro tk'))
local macro_rules | `(tactic| k_enter) => `(tactic| ((with_reducible show codeAny _ _ (Code.call (Value.ref 163) _) _ _); k_dflt (refine' CtrX.use (k := 3) (value_raise ?a ?b ?c) ?e ?f ?h ?i rfl rfl rfl rfl ?jd ?ju ?_; (case e => k_asm); (case f => k_asm); (case h => k_asm); (case i => k_asm); (case a => exact Handed.keeps (by with_reducible assumption) (Fr.keep (by k_asm))); (case b => with_reducible assumption); (case c => with_reducible assumption); (case jd => show _ < _; dsimp only [Around.deeper, Around.in1]; omega); (case ju => show _ < _; dsimp only [Around.deeper, Around.in1]; omega)); k_dflt (intro e h' tk X'); (try dsimp only)))
set_option maxHeartbeats 4000000 in
theorem setx (M : Msg w s.heap a dx f t n hs tf t1 t2 tm vs ms) (H : Handed s.heap v ns) (hr : ∀ n ∈ ns, 0 ≤ n) (hbad : ∃ n ∈ ns, 127 < n) : CtrX 4 w mean mg mb 381 ⟨[.ref a, .str (Str.ofString "data") tk0, v], []⟩ s := by
  intro A base outer R hh B X T hdp hun hR
  obtain ⟨_, dp, fr, gd, un⟩ := A
  obtain rfl := hh
  obtain rfl := B.stack
  dsimp only at hdp hun
  refine' enterK (binds := [(Str.ofString "self", .ref a), (Str.ofString "name", .str (Str.ofString "data") tk0), (Str.ofString "value", v)]) B X T ?k6 ?k7 ?k8 ?k9 ?kB ?_ ?c2 ?c3 ?c4 ?c5
  case k6 => k_is
  case k7 => k_is
  case k8 => ktr_room
  case k9 => exact BindsTo.of_eq rfl
  case kB => exact locs rfl
  case c2 => rfl
  case c3 => rfl
  case c4 => rfl
  case c5 => decide
  intro L' h₁ F N
  try dsimp only
  have Mf := M.fld
  have Ml := M.low
  k_steps
  all_goals exact hR _ _ _ (by assumption)
end
end Mine
namespace Mine
theorem filled_LX7 : PySem.Challenge.rw_ae6013_01 = PySem.Challenge.rw_ae6013_01 → hd.heap_39 = hd.heap_39 → True := by
  k_fill
  intro _ _; trivial
local macro_rules | `(tactic| k_room) => `(tactic| ktr_room)
local macro_rules | `(tactic| k_units) => `(tactic| ktr_units)
section
variable {w : World} {mean : ExcName → Option Value} {mg mb : Str → Option Value} {s : Shared}
/-- all that stood stands; the frames of the stack may have turned their slots -/
def Turned (outer : List Env) (g h : Heap) : Prop :=
  (∀ b o, g.get? b = some o → b ∉ outer.filterMap (·.frame) → h.get? b = some o) ∧ (∀ b o, g.get? b = some o → b ∈ outer.filterMap (·.frame) → ∃ sl, h.get? b = some { o with slots := sl })
theorem caught_flies {prog : Program} {K : Frag} {p : Program} {loose : List Str} {A₀ : Around} {E : Value → Shared → Prop} {s' : Shared} {base g G : Heap} {outer : List Env} {L a e : Addr} {m : Str → Option Value} {name : Str} {scope : Scope} {cd : Value}
    {b₀ : Stmt} {suite : List Stmt} {pos np : Pos} {rest : List ExceptHandler} {Q : Flow → Shared → Prop}
    (X : Flies base G (envOf name scope L a cd :: outer) e s'.heap) (F : Fr g L G m) (B : Below A₀ base outer g) (XB : K.In base) (TB : Top p loose mean mg mb base) (D : KtsDicts (outer.filterMap (·.frame)) g)
    (ex : nsIn K mainGlobals (Str.ofString "ValueError") = some none)
    (k : ∀ h', Turned outer g h' → wpAny (model prog w) ((A₀.deeper (envOf name scope L a cd)).mark (some (.ref e))) (execs (b₀ :: suite) (envOf name scope L a cd)) Q E { s' with heap := h' })
    (hk : scope.kind = .function := by rfl) (hx : (envOf name scope L a cd).kindOf (Str.ofString "ValueError") = some .globalImplicit := by rfl)
    (hE : PassesOwnAt (model prog w) ((A₀.deeper (envOf name scope L a cd)).mark (some (.ref e))) (A₀.deeper (envOf name scope L a cd)) (envOf name scope L a cd) E := by passes_own) :
    wpAny (model prog w) (A₀.deeper (envOf name scope L a cd)) (noteFrame (.ref e) (envOf name scope L a cd))
      (fun _ s₂ => wpAny (model prog w) (A₀.deeper (envOf name scope L a cd)) (setFlight (.ref e) none) (fun _ s₃ =>
        wpAny (model prog w) (A₀.deeper (envOf name scope L a cd)) (handleBy (.ref e) (envOf name scope L a cd) (.ExceptHandler (some (.Name (Str.ofString "ValueError") np)) none (b₀ :: suite) pos :: rest)) Q E s₃) E s₂) E s' := by
  refine caught_SN0 (T' := "ValueError") X.1 F B X.2 XB TB D KtsTurn.refl ex PyProof.Rows.Boot.«ValueError» (by decide) PySem.F.isExc_ValueError PySem.F.notTuple_ValueError (by rw [isSubtype_type]; kernel_rfl) (fun h' g' T' F' _ _ _ _ _ => k h' ⟨fun b o e n => ?_, fun b o e m => ?_⟩) hk hx (by decide) hE
  · exact F'.keep _ _ (T'.other b o e n)
  · obtain ⟨sl, hs⟩ := T'.frame b o e m
    exact ⟨sl, F'.keep _ _ hs⟩
/-- refused: the answer is True -/
abbrev CtrRef (k : Nat) (w : World) (mean : ExcName → Option Value) (mg mb : Str → Option Value) (f : Addr) (args : Args) (s : Shared) : Prop :=
  ∀ (A : Around) (base : Heap) (outer : List Env) (R : Result → Shared → Prop), A.handled = none → Below A base outer s.heap →
    (hd.heap_39 w.params).In base → TopG mean mg mb base → KtsDicts (outer.filterMap (·.frame)) s.heap → A.depth + 10 * k < recursionLimit → A.units + 40 * k < cLine →
    (∀ h' tk, Turned outer s.heap h' → R (.ok (.ret (.bool true))) { s with heap := h', toks := tk }) →
    codeG (model P w) A (.call (.ref f) args) R s
local macro_rules | `(tactic| walk_at "leaving ref") => `(tactic| (k_here; first
  | (refine' leave_new ?k1 ?k0 ?k2 ?k3 rfl ?_; (case k0 => assumption); (case k2 => assumption); (case k1 => assumption); (case k3 => k_asm); k_whole; intro h' X'; (try dsimp only at X' ⊢))
  | (refine' leave_flies ?k1 ?k2 ?k3 ?_; (case k3 => with_reducible assumption); (case k1 => assumption); (case k2 => assumption); k_whole; intro h' X'; (try dsimp only at X' ⊢))))
local macro_rules | `(tactic| k_inst) => `(tactic| exact Msg.inst (Msg.keeps (by with_reducible assumption) (Fr.keep (by k_asm))))
local macro_rules | `(tactic| walk_at "noteFrame ref") => `(tactic| (k_here; (refine' caught_flies ?X ?F ?K ?XB ?TB ?D ?ex ?_; (case X => with_reducible assumption); (case F => assumption); (case K => assumption); (case XB => assumption); (case TB => assumption); (case D => assumption); (case ex => k_is); k_whole); intro h' T'))
theorem G_callWith_fnP {M : Model} {A : Around} {E : Value → Shared → Prop} {s : Shared} {env : Env} {pos : Pos} {a : Addr} {o : Obj} {fd : FuncData} {first : List Value} {e : Expr} {rest : List Expr} {Q : Value → Shared → Prop}
    (h : wpAny M A (spliced (backTo pos (starEach (e :: rest) env))) (fun vs s₁ => (s₁.heap.get? a = some o ∧ o.data = .func fd) ∧ wpG M A (call (.ref a) (first ++ vs)) Q E s₁) E s)
    (he : starEach (e :: rest) env = (false, eval e env) :: starEach rest env := by rfl) :
    wpG M A (callWith pos (.ref a) first (backTo pos (starEach (e :: rest) env)) []) Q E s := by
  rw [he] at h ⊢
  exact G_callWith_fn (o := o) (fd := fd) (Calls.evalArgs_plain h)
variable {a dx f t : Addr} {n : Nat} {hs : Int} {tf t1 t2 tk0 tk1 : Tok} {tm : Int} {vs : List Value} {ns ms : List Int} {v : Value}
section
local macro_rules | `(tactic| k_enter) => `(tactic| ((with_reducible show codeAny _ _ (Code.call (Value.ref 421) _) _ _); k_dflt (refine' CtrX.use (k := 7) (door0x ?a ?b ?c ?d) ?e ?f ?h ?i rfl rfl rfl rfl ?jd ?ju ?_; (case e => k_asm); (case f => k_asm); (case h => k_asm); (case i => k_asm); (case a => exact Handed.keeps (by with_reducible assumption) (Fr.keep (by k_asm))); (case b => with_reducible assumption); (case c => with_reducible assumption); (case d => with_reducible assumption); (case jd => show _ < _; dsimp only [Around.deeper, Around.in1]; omega); (case ju => show _ < _; dsimp only [Around.deeper, Around.in1]; omega)); k_dflt (intro e h' tk X'); (try dsimp only)))
set_option maxHeartbeats 4000000 in
theorem refused0 (H : Handed s.heap v ns) (hr : ∀ n ∈ ns, 0 ≤ n) (hbad : ∃ n ∈ ns, 127 < n) (hn : ns.length ≤ 6) : CtrRef 10 w mean mg mb 435 ⟨[.int 0 tk0, v, .ref a], []⟩ s := by
  intro A base outer R hh B XB TB D hdp hun hR
  have X : (hd.heap_39 w.params).In s.heap := XB.keeps B.stays
  have T : TopG mean mg mb s.heap := TB.keeps B.stays
  refine codeG_any ?_
  obtain ⟨_, dp, fr, gd, un⟩ := A
  obtain rfl := hh
  obtain rfl := B.stack
  dsimp only at hdp hun
  refine' enterK (binds := [(Str.ofString "door", .int 0 tk0), (Str.ofString "handed", v), (Str.ofString "thing", .ref a)]) B X T ?k6 ?k7 ?k8 ?k9 ?kB ?_ ?c2 ?c3 ?c4 ?c5
  case k6 => k_is
  case k7 => k_is
  case k8 => ktr_room
  case k9 => exact BindsTo.of_eq rfl
  case kB => exact locs rfl
  case c2 => rfl
  case c3 => rfl
  case c4 => rfl
  case c5 => decide
  intro L' h₁ F N
  try dsimp only
  k_steps
  all_goals (dsimp only; exact hR _ _ (by assumption))
end
section
local macro_rules | `(tactic| k_enter) => `(tactic| ((with_reducible show codeAny _ _ (Code.call (Value.ref 421) _) _ _); k_dflt (refine' CtrX.use (k := 8) (door1x ?a ?b ?c ?d) ?e ?f ?h ?i rfl rfl rfl rfl ?jd ?ju ?_; (case e => k_asm); (case f => k_asm); (case h => k_asm); (case i => k_asm); (case a => exact Handed.keeps (by with_reducible assumption) (Fr.keep (by k_asm))); (case b => with_reducible assumption); (case c => with_reducible assumption); (case d => with_reducible assumption); (case jd => show _ < _; dsimp only [Around.deeper, Around.in1]; omega); (case ju => show _ < _; dsimp only [Around.deeper, Around.in1]; omega)); k_dflt (intro e h' tk X'); (try dsimp only)))
set_option maxHeartbeats 4000000 in
theorem refused1 (H : Handed s.heap v ns) (hr : ∀ n ∈ ns, 0 ≤ n) (hbad : ∃ n ∈ ns, 127 < n) (hn : ns.length ≤ 6) : CtrRef 10 w mean mg mb 435 ⟨[.int 1 tk0, v, .ref a], []⟩ s := by
  intro A base outer R hh B XB TB D hdp hun hR
  have X : (hd.heap_39 w.params).In s.heap := XB.keeps B.stays
  have T : TopG mean mg mb s.heap := TB.keeps B.stays
  refine codeG_any ?_
  obtain ⟨_, dp, fr, gd, un⟩ := A
  obtain rfl := hh
  obtain rfl := B.stack
  dsimp only at hdp hun
  refine' enterK (binds := [(Str.ofString "door", .int 1 tk0), (Str.ofString "handed", v), (Str.ofString "thing", .ref a)]) B X T ?k6 ?k7 ?k8 ?k9 ?kB ?_ ?c2 ?c3 ?c4 ?c5
  case k6 => k_is
  case k7 => k_is
  case k8 => ktr_room
  case k9 => exact BindsTo.of_eq rfl
  case kB => exact locs rfl
  case c2 => rfl
  case c3 => rfl
  case c4 => rfl
  case c5 => decide
  intro L' h₁ F N
  try dsimp only
  k_steps
  all_goals (dsimp only; exact hR _ _ (by assumption))
end
section
local macro_rules | `(tactic| k_enter) => `(tactic| ((with_reducible show codeAny _ _ (Code.call (Value.ref 381) _) _ _); k_dflt (refine' CtrX.use (k := 4) (setx ?m ?a ?b ?c) ?e ?f ?h ?i rfl rfl rfl rfl ?jd ?ju ?_; (case e => k_asm); (case f => k_asm); (case h => k_asm); (case i => k_asm); (case m => exact Msg.keeps (by with_reducible assumption) (Fr.keep (by k_asm))); (case a => exact Handed.keeps (by with_reducible assumption) (Fr.keep (by k_asm))); (case b => with_reducible assumption); (case c => with_reducible assumption); (case jd => show _ < _; dsimp only [Around.deeper, Around.in1]; omega); (case ju => show _ < _; dsimp only [Around.deeper, Around.in1]; omega)); k_dflt (intro e h' tk X'); (try dsimp only)))
set_option maxHeartbeats 4000000 in
theorem refused2 (M : Msg w s.heap a dx f t n hs tf t1 t2 tm vs ms) (H : Handed s.heap v ns) (hr : ∀ n ∈ ns, 0 ≤ n) (hbad : ∃ n ∈ ns, 127 < n) (hn : ns.length ≤ 6) : CtrRef 10 w mean mg mb 435 ⟨[.int 2 tk0, v, .ref a], []⟩ s := by
  intro A base outer R hh B XB TB D hdp hun hR
  have X : (hd.heap_39 w.params).In s.heap := XB.keeps B.stays
  have T : TopG mean mg mb s.heap := TB.keeps B.stays
  refine codeG_any ?_
  obtain ⟨_, dp, fr, gd, un⟩ := A
  obtain rfl := hh
  obtain rfl := B.stack
  dsimp only at hdp hun
  refine' enterK (binds := [(Str.ofString "door", .int 2 tk0), (Str.ofString "handed", v), (Str.ofString "thing", .ref a)]) B X T ?k6 ?k7 ?k8 ?k9 ?kB ?_ ?c2 ?c3 ?c4 ?c5
  case k6 => k_is
  case k7 => k_is
  case k8 => ktr_room
  case k9 => exact BindsTo.of_eq rfl
  case kB => exact locs rfl
  case c2 => rfl
  case c3 => rfl
  case c4 => rfl
  case c5 => decide
  intro L' h₁ F N
  try dsimp only
  k_steps
  all_goals (dsimp only; exact hR _ _ (by assumption))
end
set_option maxHeartbeats 4000000 in
theorem refused3 (M : Msg w s.heap a dx f t n hs tf t1 t2 tm vs ms) (H : Handed s.heap v ns) (hr : ∀ n ∈ ns, 0 ≤ n ∧ n < 256) (hbad : ∃ n ∈ ns, 127 < n) (hn : ns.length ≤ 6) : CtrRef 10 w mean mg mb 435 ⟨[.int 3 tk0, v, .ref a], []⟩ s := by
  intro A base outer R hh B XB TB D hdp hun hR
  have X : (hd.heap_39 w.params).In s.heap := XB.keeps B.stays
  have T : TopG mean mg mb s.heap := TB.keeps B.stays
  obtain ⟨_, dp, fr, gd, un⟩ := A
  obtain rfl := hh
  obtain rfl := B.stack
  dsimp only at hdp hun
  refine' enterG (binds := [(Str.ofString "door", .int 3 tk0), (Str.ofString "handed", v), (Str.ofString "thing", .ref a)]) B X T ?k6 ?k7 ?k8 ?k9 ?kB ?_ ?c2 ?c3 ?c4 ?c5
  case k6 => k_is
  case k7 => k_is
  case k8 => ktr_room
  case k9 => exact BindsTo.of_eq rfl
  case kB => exact locs rfl
  case c2 => rfl
  case c3 => rfl
  case c4 => rfl
  case c5 => decide
  intro L' h₁ F N
  try dsimp only
  refine G_execs_cons (G_Try ?_)
  refine G_execs_cons (G_If (G_any ?_))
  k_steps
  simp only [Bool.false_eq_true, if_false]
  refine G_execs_cons (G_Expr (G_Call_Name ?_))
  k_steps
  obtain ⟨fo, hfo, fd, hfd⟩ : ∃ o, (hd.heap_39 w.params).lookup 421 = some o ∧ ∃ fd, o.data = .func fd := ⟨_, by k_is, _, rfl⟩
  refine G_callWith_fnP (o := fo) (fd := fd) ?_
  k_steps
  · exact F.keep _ _ (X _ _ hfo)
  refine G_call ?_
  refine' CtrXG.use (k := 9) (door3x (M.keeps F.keep) (H.keeps F.keep) hr hbad hn) B F X T rfl rfl rfl rfl ?xjd ?xju ?_
  case xjd => show _ < _; dsimp only [Around.deeper, Around.in1]; omega
  case xju => show _ < _; dsimp only [Around.deeper, Around.in1]; omega
  intro e h' tk' X'
  refine caught_flies X' F B XB TB D (by k_is) fun h'' T' => ?_
  k_steps
  all_goals (dsimp only; exact hR _ _ (by assumption))
theorem refused_spec {door : Int} (h0 : 0 ≤ door) (h3 : door ≤ 3) (M : Msg w s.heap a dx f t n hs tf t1 t2 tm vs ms) (H : Handed s.heap v ns) (hr : ∀ n ∈ ns, 0 ≤ n ∧ n < 256) (hbad : ∃ n ∈ ns, 127 < n) (hn : ns.length ≤ 6) :
    CtrRef 10 w mean mg mb 435 ⟨[.int door tk0, v, .ref a], []⟩ s := by
  have : door = 0 ∨ door = 1 ∨ door = 2 ∨ door = 3 := by omega
  have hr' : ∀ n ∈ ns, 0 ≤ n := fun n h => (hr n h).1
  rcases this with rfl | rfl | rfl | rfl
  · exact refused0 H hr' hbad hn
  · exact refused1 H hr' hbad hn
  · exact refused2 M H hr' hbad hn
  · exact refused3 M H hr hbad hn
end
end Mine
namespace Mine
section
variable {prog : Program} {w : World} {A : Around} {s : Shared} {env : Env}
abbrev No : Value → Shared → Prop := fun _ _ => False
theorem codeG_forLoop {R : Result → Shared → Prop} {target : Expr} {it : Value} {body : List Stmt} (I : Nat → Shared → Prop)
    (turn : ∀ n s, I n s → wpAny (model prog w) A (pyNext it) (fun r s₁ => match r with
      | none => R (.ok .next) s₁
      | some v => wpAny (model prog w) A (assign target env v) (fun _ s₂ => wpG (model prog w) A (execs body env) (fun f s₃ => f = .next ∧ ∃ m, m < n ∧ I m s₃) No s₂) No s₁) No s)
    (n : Nat) (h : I n s) (ht : ∀ v, letOwnedTupleGo target it v = pure () := by intro _; rfl) : codeG (model prog w) A (.forLoop target it body [] env) R s := by
  induction n using Nat.strongRecOn generalizing s with
  | ind n ih =>
    refine codeG_of_tree (noLend_other fun _ _ e => by cases e) ?_
    show wpG _ _ ((forTurn target it body [] env).onRaise (fun x => do noteFrame x env; theTreesLotGoes x)) _ _ s
    refine G_onRaise (G_mono (E := No) (Q := fun fin s' => match fin with | .done f => R (.ok f) s' | .again c' => c'.quiet = true ∧ codeG (model prog w) A c' R s') ?_ (fun _ _ x => x) (fun _ _ x => x.elim))
    simp only [forTurn]
    refine G_standAt (G_then (wpAny_onRaise (wpAny_mono (turn n s h) (fun r s₁ h₁ => ?_) fun _ _ h' => h'.elim)))
    cases r with
    | none => exact G_pure ⟨rfl, codeG_any (codeAny_block (wpAny_execs_nil h₁))⟩
    | some v =>
      refine G_then (wpAny_of_eq (ht v) ?_)
      refine G_then (wpAny_mono h₁ (fun _ s₂ h₂ => G_bind (G_mono h₂ (fun f s₃ h₃ => ?_) fun _ _ h' => h')) fun _ _ h' => h')
      obtain ⟨rfl, m, hm, hI⟩ := h₃
      exact G_pure ⟨rfl, ih m hm hI⟩
theorem G_For {E : Value → Shared → Prop} {target iter : Expr} {body : List Stmt} {pos : Pos} {Q : Flow → Shared → Prop}
    (h : wpAny (model prog w) A (eval iter env) (fun x s₁ => wpAny (model prog w) A (pyIter x) (fun it s₂ =>
      codeG (model prog w) A (.forLoop target it body [] env) (fun r s' => match r with | .ok f => Q f s' | .error _ => False) s₂) E s₁) E s)
    (hs : ∀ x, foldedSetIterable iter env x = pure x := by intro _; rfl) :
    wpG (model prog w) A (exec (.For target iter body [] pos) env) Q E s := by
  rw [exec_For]
  refine G_standAt (G_then (wpAny_mono h (fun x s₁ h₁ => G_then (wpAny_of_eq (hs x) (G_standAt (G_then (wpAny_holding (wpAny_mono h₁ (fun it s₂ h₂ => ?_) fun _ _ h' => h')))))) fun _ _ h' => h'))
  unfold runOwn
  refine G_onRaise (G_run (codeG_mono h₂ fun r s' hr => ?_))
  cases r with
  | ok f => exact hr
  | error e => exact hr.elim
/-- for x in range(n), n written -/
theorem G_forRange {Q : Flow → Shared → Prop} {E : Value → Shared → Prop} {x : Str} {px : Pos} {body : List Stmt} {r : Addr} {n : Nat} {t u v : Tok} {h₀ : Heap} {m : Str → Option Value} {news : List (Addr × Obj)}
    (hh : A.handled = none) (hx : env.kindOf x = some .local) (hp : (env.scope.kind == .class || (env.scope.kind == .module && env.locals != env.globals)) = false)
    (hr : IsRange s.heap r 0 n 1 t u v) (hsmall : Builtin.Range.small 0 n 1 = true) (hsz : Builtin.Range.rangeSize 0 n 1 = n) (F : Fr h₀ env.locals s.heap m) (N : News h₀ env.locals s.heap news)
    (G : Heap) (hG : ∀ b o, G.get? b = some o → s.heap.get? b = some o) (hGL : G.get? env.locals = none)
    (J : (Str → Option Value) → List (Addr × Obj) → Prop) (h0 : J m news)
    (turn : ∀ (i : Nat) t I o m₁ nx h tk, i < n → J m₁ nx → nx.map (·.1) = news.map (·.1) → (∀ p ∈ news, p.1 < I) → Fr h₀ env.locals h (fun y => if y = x then some (.int i t) else m₁ y) → News h₀ env.locals h ((I, o) :: nx) → (∀ b o, G.get? b = some o → h.get? b = some o) → G.get? I = none →
      wpG (model prog w) A (execs body env) (fun f s₂ => f = .next ∧ ∃ h' tk' m' nx', s₂ = { s with heap := h', toks := tk' } ∧ Fr h₀ env.locals h' m' ∧ News h₀ env.locals h' ((I, o) :: nx') ∧ J m' nx' ∧ nx'.map (·.1) = news.map (·.1) ∧ ∀ b o, G.get? b = some o → h'.get? b = some o) No { s with heap := h, toks := tk })
    (done : ∀ m' nx' h tk, J m' nx' → nx'.map (·.1) = news.map (·.1) → Fr h₀ env.locals h m' → News h₀ env.locals h nx' → (∀ b o, G.get? b = some o → h.get? b = some o) → Q .next { s with heap := h, toks := tk }) :
    wpAny (model prog w) A (pyIter (.ref r)) (fun it s₂ => codeG (model prog w) A (.forLoop (.Name x px) it body [] env) (fun r s' => match r with | .ok f => Q f s' | .error _ => False) s₂) E s := by
  have hlt : ∀ b o, s.heap.get? b = some o → b < s.heap.objs.size := fun b o e => Heap.lt_size e
  have hLI : env.locals ≠ s.heap.objs.size := Nat.ne_of_lt F.ns.lt
  have hI0 : h₀.get? s.heap.objs.size = none := (none_at_size F)
  refine wpAny_pyIter_range hr hsmall ?_
  have W := Walks.range (prog := prog) (w := w) hh s.heap.objs.size 0 1 n
  refine codeG_forLoop (fun k s' => ∃ h' tk m' nx' i, s' = { s with heap := h', toks := tk } ∧ IsRangeIter h' s.heap.objs.size (0 + (i : Nat) * 1) ((n : Int) - (i : Nat)) 1 ∧ Fr h₀ env.locals h' m' ∧ News h₀ env.locals h' nx' ∧ J m' nx' ∧ nx'.map (·.1) = news.map (·.1) ∧ i ≤ n ∧ k = n + 1 - i ∧ ∀ b o, G.get? b = some o → h'.get? b = some o) ?_ (n + 1) ?ini
  case ini =>
    refine ⟨_, s.toks, m, news, 0, rfl, ?_, F.push _, (fun p hp => ⟨Heap.get?_push_of_some _ (N p hp).1, (N p hp).2⟩), h0, rfl, Nat.zero_le _, rfl, fun b o e => Heap.get?_push_of_some _ (hG b o e)⟩
    · rw [hsz, show (0 : Int) + ((0 : Nat) : Int) * 1 = 0 by omega, show (n : Int) - ((0 : Nat) : Int) = n by omega]; exact Heap.get?_push_size _ rfl
  rintro k s' ⟨h', tk, m', nx', i, rfl, hst, F', N', hJ, hmap, hi, rfl, hS⟩
  have off : ∀ (nx : List (Addr × Obj)), nx.map (·.1) = news.map (·.1) → ∀ p ∈ nx, p.1 < s.heap.objs.size := fun nx e p hp => by
    have : p.1 ∈ news.map (·.1) := e ▸ List.mem_map_of_mem hp
    obtain ⟨q, hq, e'⟩ := List.mem_map.mp this
    rw [← e']; exact hlt _ _ (N q hq).1
  have next : ∀ h₁ : Heap, (∀ b o, b ∉ [s.heap.objs.size] → h'.get? b = some o → h₁.get? b = some o) → Fr h₀ env.locals h₁ m' ∧ News h₀ env.locals h₁ nx' := fun h₁ hk =>
    ⟨⟨F'.ns.at' fun o e => hk _ o (fun z => hLI (List.mem_singleton.mp z)) e, fun b o e => hk b o (fun z => by rw [List.mem_singleton.mp z, hI0] at e; cases e) (F'.keep b o e), F'.above⟩,
      fun p hp => ⟨hk _ _ (fun z => Nat.lt_irrefl _ ((List.mem_singleton.mp z) ▸ off nx' hmap p hp)) (N' p hp).1, (N' p hp).2⟩⟩
  have hGI : G.get? s.heap.objs.size = none := by
    cases q : G.get? s.heap.objs.size with
    | none => rfl
    | some o => exact absurd (hlt _ _ (hG _ _ q)) (Nat.lt_irrefl _)
  have offG : ∀ b o, G.get? b = some o → b ∉ [s.heap.objs.size] := fun b o e z => by rw [List.mem_singleton.mp z, hGI] at e; cases e
  by_cases hlti : i < n
  · refine W.item i _ _ _ hlti hst fun v h₁ tk₁ hP hst₁ hk₁ => ?_
    obtain ⟨t₁, rfl⟩ := hP
    obtain ⟨F₁, N₁⟩ := next h₁ hk₁
    refine wpAny_assign_Name (wpAny_storeName_local hx F₁.ns (fun h₂ hn₂ hs₂ => ?_) hp)
    have F₂ := F₁.set hn₂ hs₂
    have N₂ := N₁.set hs₂
    have hst₂ : IsRangeIter h₂ s.heap.objs.size (0 + ((i + 1 : Nat) : Int) * 1) ((n : Int) - ((i + 1 : Nat) : Int)) 1 := W.frame _ _ _ hst₁ fun b hb o e => (hs₂.2 b fun q => hLI (q ▸ (List.mem_singleton.mp hb))).trans e
    have N₃ : News h₀ env.locals h₂ ((s.heap.objs.size, _) :: nx') := fun p hp => by
      rcases List.mem_cons.mp hp with rfl | hp
      · exact ⟨hst₂, Ne.symm hLI, hI0⟩
      · exact N₂ p hp
    have F₃ : Fr h₀ env.locals h₂ (fun y => if y = x then some (.int (i : Int) t₁) else m' y) := by
      have e : (0 + (i : Int) * 1) = (i : Int) := by omega
      rw [e] at F₂; exact F₂
    refine G_mono (turn i t₁ s.heap.objs.size _ m' nx' h₂ (tk₁ + 1) hlti hJ hmap (fun p hp => hlt _ _ (N p hp).1) F₃ N₃ (fun b o e => (hs₂.2 b fun q => by rw [q, hGL] at e; cases e).trans (hk₁ b o (offG b o e) (hS b o e))) hGI) (fun f s₃ h₃ => ?_) fun _ _ e => e
    obtain ⟨rfl, h₃', tk₃, m₂, nx₂, rfl, F₄, N₄, hJ₄, hmap₄, hS₄⟩ := h₃
    exact ⟨rfl, n + 1 - (i + 1), by omega, h₃', tk₃, m₂, nx₂, i + 1, rfl, (N₄ _ (.head _)).1, F₄, (fun p hp => N₄ p (.tail _ hp)), hJ₄, hmap₄, hlti, rfl, hS₄⟩
  · have hin : i = n := by omega
    subst hin
    refine W.done _ _ _ hst fun h₁ tk₁ hk₁ => ?_
    obtain ⟨F₁, N₁⟩ := next h₁ hk₁
    exact done m' nx' h₁ tk₁ hJ hmap F₁ N₁ fun b o e => hk₁ b o (offG b o e) (hS b o e)
end
/-- names of a frame that may have turned -/
def over : List Str → (Str → Option Value) → (Str → Option Value) → Str → Option Value
  | [], _, m₀ => m₀
  | n :: r, f, m₀ => fun y => if y = n then f n else over r f m₀ y
theorem over_of {m m₀ : Str → Option Value} : ∀ (ns : List Str), (∀ y, y ∉ ns → m y = m₀ y) → m = over ns m m₀
  | [], h => funext fun y => h y (by simp)
  | n :: r, h => by
    have key : ∀ (ns : List Str) (y : Str), (y ∉ ns → m y = m₀ y) → m y = over ns m m₀ y := by
      intro ns y
      induction ns with
      | nil => intro h; exact h (by simp)
      | cons a r ih =>
        intro h
        show m y = if y = a then m a else over r m m₀ y
        by_cases e : y = a
        · rw [if_pos e, e]
        · rw [if_neg e]; exact ih fun hy => h (by simp [e, hy])
    exact funext fun y => key (n :: r) y (h y)
end Mine
namespace Mine
theorem filled_LM : PySem.Challenge.rw_ae6013_01 = PySem.Challenge.rw_ae6013_01 → hd.heap_39 = hd.heap_39 → True := by
  k_fill
  intro _ _; trivial
local macro_rules | `(tactic| k_room) => `(tactic| ktr_room)
local macro_rules | `(tactic| k_units) => `(tactic| ktr_units)
section
variable {w : World} {mean : ExcName → Option Value} {mg mb : Str → Option Value} {s : Shared}
local macro_rules | `(tactic| walk_at "call builtin:dict.pop") => `(tactic| (k_here; (with_reducible show wpAny _ _ (call (Value.builtin "dict.pop") [Value.ref _, Value.str _ _, _]) _ _ _); k_dflt (refine' pop_absent (knd := PySem.strKind _ _) ?N ?m ?d ?o (strKind_is _ _ _ _) (by rfl) (PySem.F.args_dict_pop_3 _ _ _) ?l ?_; (case N => k_asm); (case m => k_mem); (case d => k_asm); (case o => k_asm); (case l => rfl))))
local macro_rules | `(tactic| walk_at "call type:tuple") => `(tactic| (k_here; (with_reducible show wpAny _ _ (call (Value.type "tuple") [_]) _ _ _); k_dflt (refine' tuple_K ?F ?N ?H ?hh ?hn ?_ ?_; (case F => k_asm); (case N => k_asm); (case H => with_reducible assumption); (case hh => rfl); (case hn => with_reducible assumption)); all_goals (first | (with_reducible intro t vs h' tk F' N' l1 hi; (try k_lt l1)) | (with_reducible intro t vs e ht hi))))
local macro_rules | `(tactic| k_enter) => `(tactic| ((with_reducible show codeAny _ _ (Code.call (Value.ref 170) _) _ _); k_dflt (refine' Ctr.use (k := 4) (check_msg_spec ?a ?b ?c ?d) ?e ?f ?g ?h ?i rfl rfl rfl rfl ?jd ?ju ?_; (case e => k_asm); (case f => k_asm); (case g => k_asm); (case h => k_asm); (case i => k_asm); (case a => exact kda_dict (by k_asm) (by k_mem) (by k_asm)); (case b => k_asm); (case c => (first | exact Handed.tuple (IsTup.keeps (by with_reducible assumption) (Fr.keep (by k_asm))) (by with_reducible assumption) | exact Handed.tuple (News.isTup (by k_asm) (by k_mem)) (by with_reducible assumption))); (case d => with_reducible assumption); (case jd => show _ < _; dsimp only [Around.deeper, Around.in1]; omega); (case ju => show _ < _; dsimp only [Around.deeper, Around.in1]; omega)); k_dflt (intro v' h' tk' hk hf' e F' N'; subst e; clear hk hf'); (try dsimp only)))
local macro_rules | `(tactic| k_enter) => `(tactic| ((with_reducible show codeAny _ _ (Code.call (Value.ref 93) _) _ _); k_dflt (refine' Ctr.use (k := 1) (make_spec ?a ?b ?c) ?e ?f ?g ?h ?i rfl rfl rfl rfl ?jd ?ju ?_; (case e => k_asm); (case f => k_asm); (case g => k_asm); (case h => k_asm); (case i => k_asm); (case a => exact kda_dict (by k_asm) (by k_mem) (by k_asm)); (case b => exact Nat.le_of_ble_eq_true rfl); (case c => k_asm); (case jd => show _ < _; dsimp only [Around.deeper, Around.in1]; omega); (case ju => show _ < _; dsimp only [Around.deeper, Around.in1]; omega)); k_dflt (intro v' h' tk' hk hf' ⟨d', o', e, hd, hlo, hl, hdo⟩ F' N'; subst e; have l1 := hf' _ hd; replace N' := news_add N' hl l1; clear hl hk hf'; obtain ⟨_, _, l1⟩ := l1; (try dsimp only [AllNe] at l1); (try dsimp only [merged, List.foldl] at hdo); (try kob_lit)); (try dsimp only)))
/-- a new message whose tuple is new too -/
def MadeN (w : World) (h : Heap) (tm : Int) (ns : List Int) (u : Value) (h' : Heap) : Prop :=
  ∃ a dx f t n hs tf t1 t2 vs of ot, u = .ref a ∧ h.get? a = none ∧ h.get? dx = none ∧ h.get? f = none ∧ h.get? t = none ∧ h'.get? a = some (instObj 391 dx) ∧ h'.get? dx = some (dictOf [⟨hs, .str (Str.ofString "fields") tf, .ref f⟩] n) ∧ h'.get? f = some of ∧ (f == sysModules) = false ∧
    of.IsDictOf (strKind P w) [(Str.ofString "type", .str (Str.ofString "sysex") t1), (Str.ofString "time", .int tm t2), (Str.ofString "data", .ref t)] ∧ h'.get? t = some ot ∧ ot = { cls := .type "tuple", data := .seq (List.toArray vs) } ∧ IntsAre vs ns
theorem made_ofN {w : World} {h₀ h : Heap} {L x dx f t : Addr} {n : Nat} {hs : Int} {tf t1 t2 : Tok} {tm : Int} {vs : List Value} {ns : List Int} {o : Obj} (hx : h.get? x = some (instObj 391 dx) ∧ x ≠ L ∧ h₀.get? x = none)
    (hdx : h.get? dx = some (dictOf [⟨hs, .str (Str.ofString "fields") tf, .ref f⟩] n) ∧ dx ≠ L ∧ h₀.get? dx = none) (hf : h.get? f = some o ∧ f ≠ L ∧ h₀.get? f = none) (lo : (f == sysModules) = false)
    (ho : o.IsDictOf (strKind P w) [(Str.ofString "type", .str (Str.ofString "sysex") t1), (Str.ofString "time", .int tm t2), (Str.ofString "data", .ref t)]) (ht : h.get? t = some { cls := .type "tuple", data := .seq (List.toArray vs) } ∧ t ≠ L ∧ h₀.get? t = none) (hi : IntsAre vs ns) : MadeN w h₀ tm ns (.ref x) h :=
  ⟨x, dx, f, t, n, hs, tf, t1, t2, vs, o, _, rfl, hx.2.2, hdx.2.2, hf.2.2, ht.2.2, hx.1, hdx.1, hf.1, lo, ho, ht.1, rfl, hi⟩
set_option maxHeartbeats 4000000 in
theorem made2n {tk0 tt : Tok} {tm : Int} {lv : Addr} {us : List Value} {ns : List Int} (hl : s.heap.IsList lv us.toArray) (hi : IntsAre us ns) (hr : ∀ n ∈ ns, 0 ≤ n ∧ n ≤ 127) (hn : ns.length ≤ 6) : Ctr 6 w mean mg mb 391 ⟨[.str (Str.ofString "sysex") tk0], [(Str.ofString "data", .ref lv), (Str.ofString "time", .int tm tt)]⟩ s (MadeN w s.heap tm ns) := by
  intro A base outer R hh B X T hdp hun hR
  have H : Handed s.heap (.ref lv) ns := .list hl hi
  obtain ⟨_, dp, fr, gd, un⟩ := A
  obtain rfl := hh
  obtain rfl := B.stack
  dsimp only at hdp hun
  refine make_own (fI := 330) X (by k_is) (by k_is) (by k_is) ?_
  intro x dx h' hlt hsub hsz N0
  rw [under_make]
  refine' enterKW (hb := s.heap) (ex := [(Str.ofString "data", .ref lv), (Str.ofString "time", .int tm tt)]) (front := [(Str.ofString "self", .ref x), (Str.ofString "kind", .str (Str.ofString "sysex") tk0), (Str.ofString "skip_checks", .bool false)]) (nm := Str.ofString "args") hsub hsz N0 X T ?k6 ?k7 ?k8 ?kn ?kp ?kk ?kl ?_ ?c2 ?c3 ?c4 ?c5
  case k6 => k_is
  case k7 => k_is
  case k8 => show _ < _; dsimp only; omega
  case kn => exact rfl
  case kp => exact rfl
  case kk => exact fun _ => rfl
  case kl => exact fun _ => locs rfl
  case c2 => rfl
  case c3 => rfl
  case c4 => rfl
  case c5 => decide
  intro D o L' h₁ tk l1 lo hd F N
  k_lt l1
  k_lt2 hlt
  try dsimp only
  k_steps
  · exact absurd (list_no_tup hl (by with_reducible assumption) (by with_reducible assumption)) id
  · rename Fr _ _ _ _ => Ff
    rename News _ _ _ _ => Nf
    exact ⟨rfl, hR _ _ _ Ff.keep (made_ofN (Nf (x, instObj 391 dx) (by k_mem)) (Nf (dx, _) (by k_mem)) (Nf (_, _) (by k_mem)) (by k_asm) (by k_asm) (Nf (_, { cls := .type "tuple", data := .seq _ }) (by k_mem)) (by with_reducible assumption))⟩
end
end Mine
namespace Mine
theorem filled_LL0 : PySem.Challenge.rw_ae6013_01 = PySem.Challenge.rw_ae6013_01 → hd.heap_39 = hd.heap_39 → True := by
  k_fill
  intro _ _; trivial
local macro_rules | `(tactic| k_room) => `(tactic| ktr_room)
local macro_rules | `(tactic| k_units) => `(tactic| ktr_units)
section
variable {w : World} {mean : ExcName → Option Value} {mg mb : Str → Option Value} {s : Shared}
theorem msg_hide {w : World} {h : Heap} {as : List Addr} {a dx f t : Addr} {n : Nat} {hs : Int} {tf t1 t2 : Tok} {tm : Int} {vs : List Value} {ns : List Int} (M : Msg w h a dx f t n hs tf t1 t2 tm vs ns) (h1 : a ∉ as) (h2 : dx ∉ as) (h3 : f ∉ as) (h4 : t ∉ as) : Msg w (hideAll h as) a dx f t n hs tf t1 t2 tm vs ns := by
  obtain ⟨o, ho, hdo⟩ := Heap.dictOf_iff.mp M.fld
  obtain ⟨ot, hot, r⟩ := M.tup
  exact ⟨hideAll_get _ M.obj h1, hideAll_get _ M.dic h2, Heap.dictOf_iff.mpr ⟨o, hideAll_get _ ho h3, hdo⟩, M.low, ⟨ot, hideAll_get _ hot h4, r⟩, M.rowI⟩
theorem msg_of {w : World} {h h₀ : Heap} {L : Addr} {news : List (Addr × Obj)} {a dx f t : Addr} {n : Nat} {hs : Int} {tf t1 t2 : Tok} {tm : Int} {vs : List Value} {ns : List Int} {of : Obj} (N : News h₀ L h news) (h1 : (a, instObj 391 dx) ∈ news) (h2 : (dx, dictOf [⟨hs, .str (Str.ofString "fields") tf, .ref f⟩] n) ∈ news) (h3 : (f, of) ∈ news)
    (h4 : (t, ({ cls := .type "tuple", data := .seq (List.toArray vs) } : Obj)) ∈ news) (lo : (f == sysModules) = false) (hd : of.IsDictOf (strKind P w) [(Str.ofString "type", .str (Str.ofString "sysex") t1), (Str.ofString "time", .int tm t2), (Str.ofString "data", .ref t)]) (hi : IntsAre vs ns) : Msg w h a dx f t n hs tf t1 t2 tm vs ns :=
  ⟨(N _ h1).1, (N _ h2).1, Heap.dictOf_iff.mpr ⟨of, (N _ h3).1, hd⟩, lo, News.isTup N h4, hi⟩
theorem news_cons {h₀ h : Heap} {L d : Addr} {o : Obj} {news : List (Addr × Obj)} (N : News h₀ L h news) (hl : h.get? d = some o) (hd : h₀.get? d = none ∧ d ≠ L) : News h₀ L h ((d, o) :: news) := fun p hp => by
  rcases List.mem_cons.mp hp with rfl | hp
  · exact ⟨hl, hd.2, hd.1⟩
  · exact N p hp
theorem news_drop2 {h₀ h : Heap} {L : Addr} {p q : Addr × Obj} {news : List (Addr × Obj)} (N : News h₀ L h (p :: q :: news)) : News h₀ L h news := fun x hx => N x (List.Mem.tail _ (List.Mem.tail _ hx))
theorem G_tk {α : Type} {M : Model} {A : Around} {t : Sem α} {Q : α → Shared → Prop} {E : Value → Shared → Prop} {s s₁ : Shared} {h : Heap} {tk : Tok} (e : s₁ = { s with heap := h, toks := tk }) (k : ∀ tk, wpG M A t Q E { s with heap := h, toks := tk }) : wpG M A t Q E s₁ := e ▸ k tk
theorem wpAny_tk {α : Type} {M : Model} {A : Around} {t : Sem α} {Q : α → Shared → Prop} {E : Value → Shared → Prop} {s s₁ : Shared} {h : Heap} {tk : Tok} (e : s₁ = { s with heap := h, toks := tk }) (k : ∀ tk, wpAny M A t Q E { s with heap := h, toks := tk }) : wpAny M A t Q E s₁ := e ▸ k tk
theorem G_tkI {M : Model} {A : Around} {env : Env} {x : Str} {i : Int} {tok : Tok} {Q : Unit → Shared → Prop} {E : Value → Shared → Prop} {s s₁ : Shared} {h : Heap} {tk : Tok} (e : s₁ = { s with heap := h, toks := tk }) (k : ∀ tok tk, wpG M A (storeName env x (.int i tok)) Q E { s with heap := h, toks := tk }) : wpG M A (storeName env x (.int i tok)) Q E s₁ := e ▸ k tok tk
theorem lst_hide {h : Heap} {as : List Addr} {a : Addr} {its : Array Value} (x : h.IsList a its) (n : a ∉ as) : (hideAll h as).IsList a its := let ⟨o, ho, r⟩ := x; ⟨o, hideAll_get _ ho n, r⟩
/-- all but one stand -/
theorem Msg.but {w : World} {h h' : Heap} {x a dx f t : Addr} {n : Nat} {hs : Int} {tf t1 t2 : Tok} {tm : Int} {vs : List Value} {ns : List Int} (M : Msg w h a dx f t n hs tf t1 t2 tm vs ns) (h1 : a ≠ x) (h2 : dx ≠ x) (h3 : f ≠ x) (h4 : t ≠ x)
    (hk : ∀ b o, b ≠ x → h.get? b = some o → h'.get? b = some o) : Msg w h' a dx f t n hs tf t1 t2 tm vs ns := by
  obtain ⟨o, ho, hdo⟩ := Heap.dictOf_iff.mp M.fld
  obtain ⟨ot, hot, r⟩ := M.tup
  exact ⟨hk _ _ h1 M.obj, hk _ _ h2 M.dic, Heap.dictOf_iff.mpr ⟨o, hk _ _ h3 ho, hdo⟩, M.low, ⟨ot, hk _ _ h4 hot, r⟩, M.rowI⟩
/-- what stood at the making, and is no tuple, is none of its parts -/
theorem made_off {w : World} {h h' : Heap} {x a dx f t : Addr} {n : Nat} {hs : Int} {tf t1 t2 : Tok} {tm : Int} {vs : List Value} {ns : List Int} {o : Obj} (M : Msg w h' a dx f t n hs tf t1 t2 tm vs ns) (ha : h.get? a = none) (hdx : h.get? dx = none) (hf : h.get? f = none)
    (hx : h.get? x = some o) (ho : o.cls ≠ .type "tuple" ∨ ∀ xs n, o.data ≠ .seq xs n) (hx' : h'.get? x = some o) : a ≠ x ∧ dx ≠ x ∧ f ≠ x ∧ t ≠ x := by
  refine ⟨fun e => ?_, fun e => ?_, fun e => ?_, fun e => ?_⟩
  · rw [e, hx] at ha; cases ha
  · rw [e, hx] at hdx; cases hdx
  · rw [e, hx] at hf; cases hf
  · obtain ⟨ot, hot, hc, nt, hd⟩ := M.tup
    rw [e, hx'] at hot
    cases hot
    rcases ho with ho | ho
    · exact ho hc
    · exact ho _ _ hd
theorem loc_obj {h : Heap} {L : Addr} {m : Str → Option Value} (n : h.Ns L m) : ∃ o, h.get? L = some o ∧ ∀ xs k, o.data ≠ .seq xs k := by
  obtain ⟨o, es, ep, ho, hd, _⟩ := n
  exact ⟨o, ho, fun xs k e => by rw [hd] at e; cases e⟩
section
variable {A₀ A : Around} {E : Value → Shared → Prop} {h₀ base : Heap} {outer : List Env} {L fa : Addr} {m : Str → Option Value} {cn : Str} {cs : Scope} {cd : Value} {cl : List (Str × Addr)}
variable {a dx f t r : Addr} {n : Nat} {hs : Int} {tf t1 t2 : Tok} {tm : Int} {vs us : List Value} {ns : List Int} {news : List (Addr × Obj)}
/-- the call of a def by name, its arguments names -/
theorem G_call2 {g : Addr} {gn x y : Str} {p p1 p2 pos : Pos} {v u : Value} {Q : Value → Shared → Prop} (F : Fr h₀ L s.heap m) (X : (hd.heap_39 w.params).In h₀) (T : TopG mean mg mb h₀)
    (hg : nsIn (hd.heap_39 w.params) mainGlobals gn = some (some (.ref g))) (hfn : ∃ o, (hd.heap_39 w.params).lookup g = some o ∧ ∃ fd, o.data = .func fd) (hx : m x = some v) (hy : m y = some u)
    (h : wpG (model P w) A (call (.ref g) [v, u]) Q E s)
    (hk : cs.kind = .function) (hgk : (envX cn cs L fa cd cl).kindOf gn = some .globalImplicit) (hgd : (gn == ("__debug__" : Str)) = false)
    (hkx : (envX cn cs L fa cd cl).kindOf x = some .local) (hdx : (x == ("__debug__" : Str)) = false) (hky : (envX cn cs L fa cd cl).kindOf y = some .local) (hdy : (y == ("__debug__" : Str)) = false) :
    wpG (model P w) A (eval (.Call (.Name gn p) [.Name x p1, .Name y p2] [] pos) (envX cn cs L fa cd cl)) Q E s := by
  obtain ⟨fo, hfo, fd, hfd⟩ := hfn
  refine G_Call_Name (nameX_K F X (topRead_of T) hg ?_ hk hgk hgd)
  refine G_callWith_fnP (o := fo) (fd := fd) ?_
  refine spliced_more (nameX_L F hx (spliced_more (nameX_L F hy (spliced_none ⟨⟨F.keep _ _ (X _ _ hfo), hfd⟩, h⟩) hk hky hdy)) hk hkx hdx)
/-- not _law_same(x, y) -/
theorem G_notSame {x y : Str} {p p1 p2 pos pos' : Pos} {whole : Sem Value} {Q : Bool → Shared → Prop} (B : Below A₀ base outer h₀) (F : Fr h₀ L s.heap m) (N : News h₀ L s.heap news) (X : (hd.heap_39 w.params).In h₀) (T : TopG mean mg mb h₀)
    (hx : m x = some (.ref a)) (hy : m y = some (.ref r)) (M : Msg w s.heap a dx f t n hs tf t1 t2 tm vs ns) (hn : ns.length ≤ 6) (hr : ∀ n ∈ ns, 0 ≤ n ∧ n ≤ 127) (hrow : s.heap.IsList r us.toArray) (hi : IntsAre us ns)
    (hA : A.frames = some (envX cn cs L fa cd cl :: outer)) (hh : A.handled = none) (hdp : A.depth + 60 < recursionLimit) (hun : A.units + 240 < cLine)
    (h : ∀ h' tk, (∀ b o, s.heap.get? b = some o → h'.get? b = some o) → Fr h₀ L h' m → News h₀ L h' news → Q false { s with heap := h', toks := tk })
    (hk : cs.kind = .function := by rfl) (hgk : (envX cn cs L fa cd cl).kindOf (Str.ofString "_law_same") = some .globalImplicit := by rfl)
    (hkx : (envX cn cs L fa cd cl).kindOf x = some .local := by rfl) (hdx : (x == ("__debug__" : Str)) = false := by decide) (hky : (envX cn cs L fa cd cl).kindOf y = some .local := by rfl) (hdy : (y == ("__debug__" : Str)) = false := by decide) :
    wpG (model P w) A (isTrue (.UnaryOp .Not (.Call (.Name (Str.ofString "_law_same") p) [.Name x p1, .Name y p2] [] pos) pos') (envX cn cs L fa cd cl) whole) Q E s := by
  refine G_isTrue_not (G_isTrue_Call ?_)
  refine G_call2 (g := 414) F X T (by k_is) ⟨_, by k_is, _, rfl⟩ hx hy ?_ hk hgk (by decide) hkx hdx hky hdy
  refine G_call ?_
  refine' CtrG.use (k := 6) (same_spec M hn hr hrow hi) B F N X T hA rfl hk hh ?xjd ?xju ?_
  case xjd => omega
  case xju => omega
  rintro v h' tk hkk _ rfl F' N'
  exact wpAny_truthy_bool (h h' tk hkk F' N')
theorem st_keep {M : Model} {x : Str} {v : Value} {Q : Unit → Shared → Prop} (F : Fr h₀ L s.heap m) (N : News h₀ L s.heap news)
    (h : ∀ h', Fr h₀ L h' (fun y => if y = x then some v else m y) → News h₀ L h' news → (∀ b o, b ≠ L → s.heap.get? b = some o → h'.get? b = some o) → Q () { s with heap := h', toks := s.toks + 1 })
    (hk : cs.kind = .function := by rfl) (hx : (envX cn cs L fa cd cl).kindOf x = some .local := by rfl) : wpAny M A (storeName (envX cn cs L fa cd cl) x v) Q E s :=
  wpAny_storeName_local hx F.ns (fun h' hn hs => h h' (F.set hn hs) (N.set hs) fun b o hb e => (hs.2 b hb).trans e) (by show (cs.kind == .class || (cs.kind == .module && L != mainGlobals)) = false; rw [hk]; rfl)
end
theorem G_bindName {M : Model} {A : Around} {E : Value → Shared → Prop} {env : Env} {x : Str} {v : Value} {Q : Unit → Shared → Prop} (h : wpG M A (storeName env x v) Q E s) : wpG M A (bindName env x v) Q E s :=
  fun Γ p hΓ g => by rw [Sem.wp_bindName]; exact h Γ p hΓ g
theorem G_Assign_NameG {M : Model} {A : Around} {E : Value → Shared → Prop} {env : Env} {x : Str} {pos' : Pos} {value : Expr} {pos : Pos} {Q : Flow → Shared → Prop}
    (h : wpG M A (eval value env) (fun v s₁ => wpG M A (storeName env x v) (fun _ => Q .next) E s₁) E s)
    (hs : swapsWith value (some (.Name x pos')) pos.line env = pure false := by rfl) :
    wpG M A (exec (.Assign [.Name x pos'] value pos) env) Q E s := by
  rw [exec_Assign_Name env x pos' value pos hs]
  exact G_standAt (G_bind (G_mono h (fun v s₁ h₁ => G_standAt (G_bind (G_bindName (G_mono h₁ (fun _ _ q => G_pure q) fun _ _ q => q)))) fun _ _ x => x))
section
variable {h h' hg : Heap} {v : Value} {ns : List Int} {x : Addr} {k : Int}
theorem Handed.but (H : Handed h v ns) (hne : ∀ l, v = .ref l → l ≠ x) (hk : ∀ b o, b ≠ x → h.get? b = some o → h'.get? b = some o) : Handed h' v ns := by
  cases H with
  | list hl hi => exact .list (let ⟨o, ho, r⟩ := hl; ⟨o, hk _ _ (hne _ rfl) ho, r⟩) hi
  | tuple hl hi => exact .tuple (let ⟨o, ho, r⟩ := hl; ⟨o, hk _ _ (hne _ rfl) ho, r⟩) hi
  | bytes hr => exact .bytes hr
  | barr hr hl => exact .barr hr (hk _ _ (hne _ rfl) hl)
theorem Dressed.but (D : Dressed k hg v ns h) (hx : ∃ o, hg.get? x = some o) (hk : ∀ b o, b ≠ x → h.get? b = some o → h'.get? b = some o) : Dressed k hg v ns h' := by
  have hne : ∀ l, v = .ref l → l ≠ x := fun l e q => by
    obtain ⟨o, ho⟩ := hx
    have := D.new l e
    rw [q, ho] at this; cases this
  refine ⟨D.is.but hne hk, D.new, fun e => ?_, fun e => ?_⟩
  · obtain ⟨l, vs, c, e1, e2, e3⟩ := D.lst e
    exact ⟨l, vs, c, e1, hk _ _ (hne _ e1) e2, e3⟩
  · obtain ⟨l, e1, e2⟩ := D.arr e
    exact ⟨l, e1, hk _ _ (hne _ e1) e2⟩
theorem Dressed.keeps (D : Dressed k hg v ns h) (hk : ∀ b o, h.get? b = some o → h'.get? b = some o) : Dressed k hg v ns h' := by
  refine ⟨D.is.keeps hk, D.new, fun e => ?_, fun e => ?_⟩
  · obtain ⟨l, vs, c, e1, e2, e3⟩ := D.lst e
    exact ⟨l, vs, c, e1, hk _ _ e2, e3⟩
  · obtain ⟨l, e1, e2⟩ := D.arr e
    exact ⟨l, e1, hk _ _ e2⟩
end
/-- what a spoiling leaves: all tuples, and all that was not handed in -/
def Spoilt (v : Value) (h h' : Heap) : Prop := ∀ b o, h.get? b = some o → (o.cls = .type "tuple" ∨ ∀ l, v = .ref l → b ≠ l) → h'.get? b = some o
theorem Spoilt.of {v : Value} {h h' : Heap} (hk : ∀ b o, h.get? b = some o → h'.get? b = some o) : Spoilt v h h' := fun b o e _ => hk b o e
theorem spoil_all {A₀ A : Around} {base h₀ hg : Heap} {outer : List Env} {L : Addr} {m : Str → Option Value} {env : Env} {news : List (Addr × Obj)} {R : Result → Shared → Prop} {v : Value} {ns : List Int} {j : Int} {tk0 : Tok} (h0 : 0 ≤ j) (h3 : j ≤ 3) (D : Dressed j hg v ns s.heap) (hlen : ns.length ≤ 5)
    (hsub : ∀ b o, h₀.get? b = some o → hg.get? b = some o)
    (B : Below A₀ base outer h₀) (F : Fr h₀ L s.heap m) (N : News h₀ L s.heap news) (X : (hd.heap_39 w.params).In h₀) (T : TopG mean mg mb h₀)
    (hA : A.frames = some (env :: outer)) (hf : env.frame = some L) (hke : env.scope.kind = .function) (hh : A.handled = none) (hdp : A.depth + 10 < recursionLimit) (hun : A.units + 40 < cLine)
    (hR : ∀ h' tk, Spoilt v s.heap h' → R (.ok (.ret .none)) { s with heap := h', toks := tk }) : codeG (model P w) A (.call (.ref 428) ⟨[v, .int j tk0], []⟩) R s := by
  have new0 : ∀ l, v = .ref l → h₀.get? l = none := fun l e => by
    cases q : h₀.get? l with
    | none => rfl
    | some o => have := D.new l e; rw [hsub _ _ q] at this; cases this
  have : j = 0 ∨ (j = 1 ∨ j = 2) ∨ j = 3 := by omega
  rcases this with rfl | hj | rfl
  · obtain ⟨l, vs, c, rfl, hl, hi⟩ := D.lst rfl
    refine codeG_any (spoil0 X T F.keep (new0 l rfl) hl (by have := hi.length; omega) A (env :: outer) R hh hA hdp hun fun h' tk hk => hR h' tk fun b o e q => hk b o (fun z => ?_) e)
    rcases q with q | q
    · rw [z, hl] at e; cases e; exact absurd (show Value.type "list" = Value.type "tuple" from q) (by decide)
    · exact q l rfl z
  · refine codeG_any (Ctr.use (k := 1) (spoil_no hj) B F N X T hA hf hke hh (by omega) (by omega) ?_)
    rintro v' h' tk hk _ rfl _ _
    exact hR h' tk (Spoilt.of hk)
  · obtain ⟨l, rfl, hl⟩ := D.arr rfl
    refine spoil3 X T F.keep (new0 l rfl) hl (by rw [byteArr_size]; omega) A (env :: outer) R hh hA hdp hun fun h' tk hk => hR h' tk fun b o e q => hk b o (fun z => ?_) e
    rcases q with q | q
    · rw [z, hl] at e; cases e; exact absurd (show Value.type "bytearray" = Value.type "tuple" from q) (by decide)
    · exact q l rfl z
theorem Spoilt.msg {w : World} {h h' hc : Heap} {v : Value} {a dx f t : Addr} {n : Nat} {hs : Int} {tf t1 t2 : Tok} {tm : Int} {vs : List Value} {ns : List Int} (S : Spoilt v h h') (M : Msg w h a dx f t n hs tf t1 t2 tm vs ns) (ha : hc.get? a = none) (hdx : hc.get? dx = none) (hf : hc.get? f = none)
    (hv : ∀ l, v = .ref l → ∃ o, hc.get? l = some o) : Msg w h' a dx f t n hs tf t1 t2 tm vs ns := by
  have off : ∀ x, hc.get? x = none → ∀ l, v = .ref l → x ≠ l := fun x hx l e q => by
    obtain ⟨o, ho⟩ := hv l e
    rw [q, ho] at hx; cases hx
  obtain ⟨o, ho, hdo⟩ := Heap.dictOf_iff.mp M.fld
  obtain ⟨ot, hot, hct, r⟩ := M.tup
  exact ⟨S _ _ M.obj (.inr (off _ ha)), S _ _ M.dic (.inr (off _ hdx)), Heap.dictOf_iff.mpr ⟨o, S _ _ ho (.inr (off _ hf)), hdo⟩, M.low, ⟨ot, S _ _ hot (.inl hct), hct, r⟩, M.rowI⟩
theorem Spoilt.fr {h₀ h h' : Heap} {L : Addr} {m : Str → Option Value} {v : Value} (S : Spoilt v h h') (F : Fr h₀ L h m) (h1 : ∀ l, v = .ref l → h₀.get? l = none) (h2 : ∀ l, v = .ref l → l ≠ L) : Fr h₀ L h' m :=
  ⟨F.ns.at' fun o e => S _ _ e (.inr fun l q => Ne.symm (h2 l q)), fun b o e => S _ _ (F.keep b o e) (.inr fun l q z => by have := h1 l q; rw [← z, e] at this; cases this), F.above⟩
theorem Spoilt.news {h₀ h h' : Heap} {L : Addr} {v : Value} {news : List (Addr × Obj)} (S : Spoilt v h h') (N : News h₀ L h news) (h1 : ∀ p ∈ news, ∀ l, v = .ref l → p.1 ≠ l) : News h₀ L h' news :=
  fun p hp => ⟨S _ _ (N p hp).1 (.inr (h1 p hp)), (N p hp).2⟩
theorem row_ok {qn : Int} : (List.map (fun k' => (qn.fdiv 4 + 37 * k').fmod 128) (rangeKs 0 (qn.fmod 6 - 0).toNat)).length ≤ 5 ∧ ∀ n ∈ List.map (fun k' => (qn.fdiv 4 + 37 * k').fmod 128) (rangeKs 0 (qn.fmod 6 - 0).toNat), 0 ≤ n ∧ n ≤ 127 := by
  constructor
  · rw [List.length_map, rangeKs_length]
    have := fmod_low (x := qn) (m := 6) (by decide)
    omega
  · intro n hn
    obtain ⟨k, _, rfl⟩ := List.mem_map.mp hn
    have := fmod_low (x := qn.fdiv 4 + 37 * k) (m := 128) (by decide)
    omega
section
variable {M : Model} {A : Around} {E : Value → Shared → Prop} {env : Env}
theorem G_spliced_cons {s : Shared} {x : Sem Value} {rest : List (Bool × Sem Value)} {Q : List Value → Shared → Prop} (h : wpG M A x (fun v s₁ => wpG M A (spliced rest) (fun vs s₂ => Q (v :: vs) s₂) E s₁) E s) : wpG M A (spliced ((false, x) :: rest)) Q E s := by
  rw [spliced]
  refine G_bind (G_mono h (fun v s₁ h₁ => ?_) fun _ _ x => x)
  simp only [Bool.false_eq_true, if_false]
  exact G_then (wpAny_pure (G_bind (G_holding (G_mono h₁ (fun vs s₂ h₂ => G_pure h₂) fun _ _ x => x))))
theorem G_spliced_more {s : Shared} {e : Expr} {rest : List Expr} {pos : Pos} {Q : List Value → Shared → Prop}
    (h : wpG M A (eval e env) (fun v s₁ => wpG M A (spliced (backTo pos (starEach rest env))) (fun vs s₂ => Q (v :: vs) s₂) E s₁) E s)
    (he : starEach (e :: rest) env = (false, eval e env) :: starEach rest env := by rfl) : wpG M A (spliced (backTo pos (starEach (e :: rest) env))) Q E s := by
  rw [he]; exact G_spliced_cons h
theorem G_spliced_none {s : Shared} {pos : Pos} {Q : List Value → Shared → Prop} (h : Q [] s) : wpG M A (spliced (backTo pos (starEach [] env))) Q E s := G_any (Calls.spliced_nil h)
theorem G_callWith_args {s : Shared} {pos : Pos} {a : Addr} {o : Obj} {fd : FuncData} {first : List Value} {e : Expr} {rest : List Expr} {Q : Value → Shared → Prop}
    (h : wpG M A (spliced (backTo pos (starEach (e :: rest) env))) (fun vs s₁ => (s₁.heap.get? a = some o ∧ o.data = .func fd) ∧ wpG M A (call (.ref a) (first ++ vs)) Q E s₁) E s)
    (he : starEach (e :: rest) env = (false, eval e env) :: starEach rest env := by rfl)
    (hplain : (backTo pos (starEach rest env)).any (·.1) = false := by rfl) :
    wpG M A (callWith pos (.ref a) first (backTo pos (starEach (e :: rest) env)) []) Q E s := by
  rw [he] at h ⊢
  unfold callWith
  refine G_bind (G_holding ?_)
  unfold evalArgs
  show wpG M A (spliced ((false, _) :: _) >>= _) _ E s
  refine G_bind (G_mono h (fun vs s₁ h₁ => ?_) fun _ _ x => x)
  refine G_any (wpAny_bind (wpAny_pure ?_))
  refine wpAny_holding ?_
  refine wpAny_bind (wpAny_pure (wpAny_bind (wpAny_pure (wpAny_pure ?_))))
  refine G_standAt ?_
  have hst : ((backTo pos ((false, eval e env) :: starEach rest env)).any (·.1)) = false := by
    show (false || (backTo pos (starEach rest env)).any (·.1)) = false
    rw [hplain]; rfl
  simp only [hst, List.any_nil, Bool.or_false]
  refine G_then (m := keeperOf (.ref a)) ?_
  unfold keeperOf
  refine wpAny_bind (wpAny_load h₁.1.1 ?_)
  rw [h₁.1.2]
  refine wpAny_pure ?_
  have h2 := h₁.2
  dsimp only
  split <;> first
    | exact G_callTail h2
    | exact G_callTail (by unfold callMarked; exact G_keep h2)
end
theorem Turned.fr {env : Env} {L : Addr} {h₀ h h' : Heap} {m : Str → Option Value} (hf : env.frame = some L) (T : Turned [env] h h') (F : Fr h₀ L h m) : Fr h₀ L h' m := by
  have e : [env].filterMap (·.frame) = [L] := by simp [hf]
  unfold Turned at T
  rw [e] at T
  obtain ⟨o, es, ep, ho, hd, hr⟩ := F.ns
  obtain ⟨sl, hs⟩ := T.2 L o ho (List.Mem.head _)
  exact ⟨⟨_, es, ep, hs, hd, hr⟩, fun b o e => T.1 b o (F.keep b o e) (fun z => by rw [List.mem_singleton.mp z, kts_self F] at e; cases e), F.above⟩
theorem Turned.news {env : Env} {L : Addr} {h₀ h h' : Heap} {news : List (Addr × Obj)} (hf : env.frame = some L) (T : Turned [env] h h') (N : News h₀ L h news) : News h₀ L h' news := by
  have e : [env].filterMap (·.frame) = [L] := by simp [hf]
  unfold Turned at T
  rw [e] at T
  exact fun p hp => ⟨T.1 _ _ (N p hp).1 (fun z => (N p hp).2.1 (List.mem_singleton.mp z)), (N p hp).2⟩
theorem dicts_of {env : Env} {L : Addr} {h₀ h : Heap} {m : Str → Option Value} (hf : env.frame = some L) (F : Fr h₀ L h m) : KtsDicts ([env].filterMap (·.frame)) h := by
  have e : [env].filterMap (·.frame) = [L] := by simp [hf]
  rw [e]
  intro b hb
  rw [List.mem_singleton.mp hb]
  obtain ⟨o, es, ep, ho, hd, _⟩ := F.ns
  exact ⟨o, es, ep, ho, hd⟩
theorem CtrRef.use {A₀ A : Around} {h₀ : Heap} {L : Addr} {m : Str → Option Value} {env : Env} {news : List (Addr × Obj)} {R : Result → Shared → Prop} {k : Nat} {f : Addr} {args : Args} (C : CtrRef k w mean mg mb f args s) (B : Below A₀ h₀ [] h₀) (F : Fr h₀ L s.heap m) (N : News h₀ L s.heap news) (X : (hd.heap_39 w.params).In h₀) (T : TopG mean mg mb h₀)
    (hA : A.frames = some [env]) (hf : env.frame = some L) (hke : env.scope.kind = .function) (hh : A.handled = none) (hdp : A.depth + 10 * k < recursionLimit) (hun : A.units + 40 * k < cLine)
    (hR : ∀ h' tk, Fr h₀ L h' m → News h₀ L h' news → R (.ok (.ret (.bool true))) { s with heap := h', toks := tk }) : codeG (model P w) A (.call (.ref f) args) R s :=
  C A h₀ [env] _ hh (below_here B F hA hf hke) X T (dicts_of hf F) hdp hun fun h' tk T' => hR h' tk (Turned.fr hf T' F) (Turned.news hf T' N)
theorem wrong_ok {rs : List Int} {n : Int} (hl : rs.length ≤ 5) (hr : ∀ n ∈ rs, 0 ≤ n ∧ n ≤ 127) : (rs ++ [128 + n.fmod 128]).length ≤ 6 ∧ (∀ k ∈ rs ++ [128 + n.fmod 128], 0 ≤ k ∧ k < 256) ∧ ∃ k ∈ rs ++ [128 + n.fmod 128], 127 < k := by
  have := fmod_low (x := n) (m := 128) (by decide)
  refine ⟨by simp only [List.length_append, List.length_cons, List.length_nil]; omega, fun k hk => ?_, _, List.mem_append_right _ (List.Mem.head _), by omega⟩
  rcases List.mem_append.mp hk with h | h
  · have := hr k h; omega
  · obtain rfl := List.mem_singleton.mp h; omega
/-- the law's call, from the top -/
abbrev CtrTop (k : Nat) (w : World) (mean : ExcName → Option Value) (mg mb : Str → Option Value) (f : Addr) (args : Args) (s : Shared) (Post : Value → Heap → Prop) : Prop :=
  ∀ (A : Around) (base : Heap) (outer : List Env) (R : Result → Shared → Prop), A.handled = none → Below A base outer s.heap →
    (hd.heap_39 w.params).In s.heap → TopG mean mg mb s.heap → A.depth + 10 * k < recursionLimit → A.units + 40 * k < cLine → base = s.heap ∧ outer = [] →
    (∀ v h' tk, (∀ b o, s.heap.get? b = some o → h'.get? b = some o) → Post v h' → R (.ok (.ret v)) { s with heap := h', toks := tk }) →
    codeG (model P w) A (.call (.ref f) args) R s
end
end Mine
namespace Mine
theorem filled_LL1 : PySem.Challenge.rw_ae6013_01 = PySem.Challenge.rw_ae6013_01 → hd.heap_39 = hd.heap_39 → True := by
  k_fill
  intro _ _; trivial
local macro_rules | `(tactic| k_room) => `(tactic| ktr_room)
local macro_rules | `(tactic| k_units) => `(tactic| ktr_units)
section
variable {w : World} {mean : ExcName → Option Value} {mg mb : Str → Option Value} {s : Shared}
variable {l : Addr} {vs : List Value} {ns : List Int}
local macro_rules | `(tactic| k_enter) => `(tactic| ((with_reducible show codeAny _ _ (Code.call (Value.ref 400) _) _ _); k_dflt (refine' Ctr.use (k := 1) (law_at_spec ?a ?b ?c ?d ?e1) ?e ?f ?g ?h ?i rfl rfl rfl rfl ?jd ?ju ?_; (case e => k_asm); (case f => k_asm); (case g => k_asm); (case h => k_asm); (case i => k_asm); (case a => exact Handed.lst_keeps (by with_reducible assumption) (Fr.keep (by k_asm))); (case b => with_reducible assumption); (case c => with_reducible assumption); (case d => omega); (case e1 => omega); (case jd => show _ < _; dsimp only [Around.deeper, Around.in1]; omega); (case ju => show _ < _; dsimp only [Around.deeper, Around.in1]; omega)); k_dflt (intro v' h' tk hk hf' ⟨q, tq, e, q0, q1⟩ F' N'; subst e; clear hk hf'); (try dsimp only)))
local macro_rules | `(tactic| k_inst) => `(tactic| exact Msg.inst (by with_reducible assumption))
theorem one_low (q : Int) : ∀ n ∈ [q.fmod 128], 0 ≤ n ∧ n ≤ 127 := by
  intro n hn
  obtain rfl := List.mem_singleton.mp hn
  have := fmod_low (x := q) (m := 128) (by decide)
  omega
local macro_rules | `(tactic| walk_at "call ref") => `(tactic| (k_here; (with_reducible show wpAny _ _ (call (Value.ref 391) _ _) _ _ _); refine wpAny_call ?_; k_enter))
local macro_rules | `(tactic| k_enter) => `(tactic| ((with_reducible show codeAny _ _ (Code.call (Value.ref 391) _) _ _); k_dflt (refine' Ctr.use (k := 6) (made2n (ns := [Int.fmod _ _]) ?a ?a2 ?b ?c) ?e ?f ?g ?h ?i rfl rfl rfl rfl ?jd ?ju ?_; (case e => k_asm); (case f => k_asm); (case g => k_asm); (case h => k_asm); (case i => k_asm); (case a => exact News.isList (by k_asm) (by k_mem)); (case a2 => exact IntsAre.cons _ _ IntsAre.nil); (case b => exact one_low _); (case c => exact Nat.le_of_ble_eq_true rfl); (case jd => show _ < _; dsimp only [Around.deeper, Around.in1]; omega); (case ju => show _ < _; dsimp only [Around.deeper, Around.in1]; omega)); k_dflt (intro v' h' tk' hk hf' ⟨a', dx', f', t', n', hs', tf', t1', t2', vs', of', ot', e', ha', hdx', hf2', ht', ob', od', off', lo', hdo', ott', eot', hi'⟩ F' N'; subst e'; subst eot'; have o1' := hf' _ ha'; have o2' := hf' _ hdx'; have o3' := hf' _ hf2'; have o4' := hf' _ ht'; clear hk hf' ha' hdx' hf2' ht'; (try dsimp only [AllNe] at o1' o2' o3' o4'); replace N' := news_cons N' ott' ⟨o4'.1, o4'.2.1⟩; replace N' := news_cons N' off' ⟨o3'.1, o3'.2.1⟩; replace N' := news_cons N' od' ⟨o2'.1, o2'.2.1⟩; replace N' := news_cons N' ob' ⟨o1'.1, o1'.2.1⟩; clear ott' off' od' ob'); (try dsimp only)))
local macro_rules | `(tactic| k_enter) => `(tactic| ((with_reducible show codeAny _ _ (Code.call (Value.ref 275) _) _ _); k_dflt (refine' Ctr.use (k := 1) (dict_spec ?a ?b) ?e ?f ?g ?h ?i rfl rfl rfl rfl ?jd ?ju ?_; (case e => k_asm); (case f => k_asm); (case g => k_asm); (case h => k_asm); (case i => k_asm); (case a => with_reducible assumption); (case b => with_reducible assumption); (case jd => show _ < _; dsimp only [Around.deeper, Around.in1]; omega); (case ju => show _ < _; dsimp only [Around.deeper, Around.in1]; omega)); k_dflt (intro v' h' tk' hk hf' ⟨d', od', l', c', e', lo', hd1, hl1, hod, hol, hne, hdo'⟩ F' N'; subst e'; have l1 := hf' _ hd1; have l2 := hf' _ hl1; replace N' := news_add N' hol l2; replace N' := news_add N' hod ⟨l1.1, l1.2.1, ⟨(Ne.symm hne : @Ne Nat _ _), l1.2.2⟩⟩; clear hf' hod hol); (try dsimp only)))
abbrev turning : List Str := [Str.ofString "k", Str.ofString "row", Str.ofString "door", Str.ofString "dress", Str.ofString "handed", Str.ofString "made", Str.ofString "wrong"]
abbrev turning2 : List Str := [Str.ofString "dress", Str.ofString "handed", Str.ofString "made"]
theorem range_small : Builtin.Range.small 0 ((4 : Nat) : Int) 1 = true := by decide +kernel
theorem range_size : Builtin.Range.rangeSize 0 ((4 : Nat) : Int) 1 = ((4 : Nat) : Int) := by decide +kernel
set_option maxHeartbeats 4000000 in
theorem law_spec (hl : s.heap.IsList l vs.toArray) (hi : IntsAre vs ns) (hz : ns.length ≤ 63) :
    CtrTop 20 w mean mg mb 440 ⟨[.ref l], []⟩ s (fun v _ => v = .bool true) := by
  intro A base outer R hh B X T hdp hun hbo hR
  obtain ⟨rfl, rfl⟩ := hbo
  obtain ⟨_, dp, fr, gd, un⟩ := A
  obtain rfl := hh
  obtain rfl := B.stack
  dsimp only at hdp hun
  refine' enterGC (binds := [(Str.ofString "script", .ref l)]) B X T ?k6 ?k7 ?k8 ?k9 ?kB ?kD ?_ ?c2 ?c3 ?c4
  case k6 => k_is
  case k7 => k_is
  case k8 => ktr_room
  case k9 => exact BindsTo.of_eq rfl
  case kB => exact rfl
  case kD => decide +kernel
  case c2 => rfl
  case c3 => rfl
  case c4 => rfl
  intro L' h₁ tk cells F N Y'
  k_cells Y'
  try dsimp only
  refine G_execs_cons (G_any ?_)
  k_steps
  dsimp only
  rename_i oc dc h2 tk2 q tq q0 q1 lb h3 l1 h4 F0 N0
  refine G_execs_cons (G_any ?_)
  k_steps
  rename_i h5 tk5 a dx f t n hs tf t1 t2 vt of lof hdof hit o1 o2 o3 o4 h6 F2 N2
  have hr := one_low q
  have hib : IntsAre [Value.int (q.fmod 128) (tk2 + 1)] [q.fmod 128] := IntsAre.cons _ _ IntsAre.nil
  have hzv : vt.toArray.size ≤ sizeLine := by have := hit.length; rw [sizeLine_eq]; simp only [List.size_toArray]; simp at this; omega
  have M2 := msg_of N2 (by k_mem) (by k_mem) (by k_mem) (by k_mem) lof hdof hit
  have hb2 : h6.IsList lb (List.toArray [Value.int (q.fmod 128) (tk2 + 1)]) := News.isList N2 (by k_mem)
  dsimp only
  refine G_execs_cons (G_If (G_isTrue_BoolOp (G_or_cons (G_notSame B F2 N2 X T rfl rfl M2 (Nat.le_of_ble_eq_true rfl) hr hb2 hib rfl rfl (by show _ < _; dsimp only [Around.deeper]; omega) (by show _ < _; dsimp only [Around.deeper]; omega) fun h7 tk7 hk7 F3 N3 => ?_))))
  have M7 := M2.keeps hk7
  clear F2 N2 hk7 M2 hb2
  simp only [Bool.false_eq_true, if_false]
  refine G_or_cons (G_any ?_)
  k_steps
  rename_i h8 tk8 hk8 d8 od8 l8 c8 lo8 e1 e2 e3 e4 F8 e5 e6 N4
  have N8 := news_drop2 N4
  clear M7 N3 F3 N4 hk8 lo8 e1 e2 e3 e4 e5 e6
  refine G_or_nil ?_
  simp only [Bool.false_eq_true, if_false]
  refine G_execs_nil ?_
  dsimp only
  refine G_execs_cons (G_For ?_)
  k_steps
  rename_i h9 tk9 ta ua va hrg F9 N9 hk9
  clear hk9
  refine' G_forRange (n := 4) rfl rfl rfl hrg range_small range_size F9 N9 s.heap F9.keep (kts_self F9)
    (fun m nx => (∀ y, y ∉ turning → m y = (_ : Str → Option Value) y) ∧ ∃ (oc : Obj) (cv : Option Value), nx = [(a, instObj 391 dx), (dx, dictOf [⟨hs, .str (Str.ofString "fields") tf, .ref f⟩] n), (f, of), (t, { cls := .type "tuple", data := .seq vt.toArray }), (lb, listOf #[Value.int (q.fmod 128) (tk2 + 1)] 0), (L' + 1, oc)] ∧ oc.data = .cell cv) ⟨fun _ _ => rfl, oc, _, rfl, dc⟩ ?turn ?done
  case done =>
    rintro m' nx' h tk ⟨hm, _⟩ hmap F N S
    dsimp only
    refine G_any ?_
    k_steps
    exact hR _ _ _ F.keep rfl
  case turn =>
    clear F9 N9 hrg dc
    rintro i ti I oI m₁ nx h tk hi4 ⟨hm, oc, cv, rfl, hoc⟩ hmap hlt F N hk0 hg0
    rw [over_of turning hm] at F
    simp only [over] at F
    k_lt hlt
    clear hmap hm hk0 hg0
    refine G_execs_cons (G_any ?_)
    k_steps
    rename_i ha tka qn tqn qn0 qn1 hb oc2 F1 N1 doc2
    refine G_tk (s := s) (h := hb) rfl fun tkb => ?_
    (try clear F); (try clear N); (try clear hoc)
    refine G_execs_cons (G_any ?_)
    k_steps
    rename_i g9 hI8 hL8 D h10 tk10 F10 N10 oD
    refine G_tk (s := s) (h := h10) rfl fun tkc => ?_
    (try clear F1); (try clear N1)
    refine G_execs_cons (G_Assign_NameG (G_any ?_))
    k_steps
    refine G_tkI (s := s) (h := h10) rfl fun tokd tkd => G_any (st_keep F10 N10 fun h11 F11 N11 hk11 => ?_)
    (try clear F10); (try clear N10); clear hk11
    refine G_tk (s := s) (h := h11) rfl fun tke => ?_
    refine G_execs_cons (G_For ?_)
    k_steps
    rename_i h12 tk12 td ud vd hrd F12 N12 hk12
    refine wpAny_tk (s := s) (h := h12) rfl fun tke => ?_
    obtain ⟨rs, hrs, hlen, hrr⟩ : ∃ rs, IntsAre ys rs ∧ rs.length ≤ 5 ∧ ∀ n ∈ rs, 0 ≤ n ∧ n ≤ 127 := ⟨_, hI8, row_ok.1, row_ok.2⟩
    clear hI8 hL8 hk12
    refine' G_forRange (n := 4) rfl rfl rfl hrd range_small range_size F12 N12 s.heap F12.keep (kts_self F12)
      (fun m nx => (∀ y, y ∉ turning2 → m y = (_ : Str → Option Value) y) ∧ nx = [(D, { cls := .type "list", data := .seq ys.toArray ys.length }), (I, oI), (a, instObj 391 dx), (dx, dictOf [⟨hs, .str (Str.ofString "fields") tf, .ref f⟩] n), (f, of), (t, { cls := .type "tuple", data := .seq vt.toArray }), (lb, listOf #[Value.int (q.fmod 128) (tk2 + 1)] 0), (L' + 1, oc2)]) ⟨fun _ _ => rfl, rfl⟩ ?turn2 ?done2
    case turn2 =>
      clear F12 N12 hrd
      rintro j tj I2 oI2 m2 nx2 hh tkh hj4 ⟨hm2, rfl⟩ hmap2 hlt2 F N _ _
      rw [over_of turning2 hm2] at F
      simp only [over] at F
      clear hmap2 hm2 hlt2
      replace F : Fr s.heap L' hh _ := F
      replace N : News s.heap L' hh _ := N
      have h256 : ∀ n ∈ rs, 0 ≤ n ∧ n < 256 := fun n h => by have := hrr n h; omega
      refine G_execs_cons (G_Assign_NameG (G_call2 (g := 407) F X T (by k_is) ⟨_, by k_is, _, rfl⟩ rfl rfl ?_ rfl rfl (by decide) rfl (by decide) rfl (by decide)))
      refine G_call ?_
      refine' CtrG.use (k := 1) (dress_spec (k := (j : Int)) (by omega) (by omega) (News.isList N (by k_mem)) hrs (by omega) h256) B F N X T rfl rfl rfl rfl ?_ ?_ ?_
      · show _ < _; dsimp only [Around.deeper, Around.in1]; omega
      · show _ < _; dsimp only [Around.deeper, Around.in1]; omega
      intro v h1 tk1 hk1 hf1 D1 F1 N1
      replace D1 : Dressed (j : Int) hh v rs h1 := D1
      refine G_any (st_keep F1 N1 fun h2 F2 N2 hk2 => ?_)
      have hL := loc_obj F.ns
      have D2 := D1.but (let ⟨o, ho, _⟩ := hL; ⟨o, ho⟩) hk2
      have hLn : ∀ l, v = .ref l → l ≠ L' := fun l e z => by
        obtain ⟨o, ho, _⟩ := hL
        have := D1.new l e
        rw [z, ho] at this; cases this
      have hNn : ∀ p ∈ [(I2, oI2), (D, _), (I, oI), (a, instObj 391 dx), (dx, dictOf [⟨hs, .str (Str.ofString "fields") tf, .ref f⟩] n), (f, of), (t, { cls := .type "tuple", data := .seq vt.toArray }), (lb, listOf #[Value.int (q.fmod 128) (tk2 + 1)] 0), (L' + 1, oc2)], ∀ l, v = .ref l → p.1 ≠ l := fun p hp l e z => by
        have := D1.new l e
        rw [← z, (N p hp).1] at this; cases this
      have hN0 : ∀ l, v = .ref l → s.heap.get? l = none := fun l e => by
        cases q : s.heap.get? l with
        | none => rfl
        | some o => have := D1.new l e; rw [F.keep _ _ q] at this; cases this
      have hFk := F.keep
      obtain ⟨oL', hoL', _⟩ := hL
      clear F N F1 N1 hk1 hf1 D1 hk2
      refine G_tk (s := s) (h := h2) rfl fun tk2' => ?_
      refine G_execs_cons (G_Assign_NameG (G_Call_Name ?_))
      k_steps
      obtain ⟨fo, hfo, fd, hfd⟩ : ∃ o, (hd.heap_39 w.params).lookup 421 = some o ∧ ∃ fd, o.data = .func fd := ⟨_, by k_is, _, rfl⟩
      refine G_callWith_fnP (o := fo) (fd := fd) ?_
      k_steps
      · exact F2.keep _ _ (X _ _ hfo)
      have M2 := msg_of N2 (by k_mem) (by k_mem) (by k_mem) (by k_mem) lof hdof hit
      have hdoor := fmod_low (x := (qn.fdiv 8 + (i : Int)).fmod 4 + (j : Int)) (m := 4) (by decide)
      refine G_call ?_
      refine' CtrG.use (k := 9) (made_all (s := { s with heap := h2, toks := _ }) hdoor.1 (by omega) M2 D2.is hrr (by omega)) B F2 N2 X T rfl rfl rfl rfl ?_ ?_ ?_
      · show _ < _; dsimp only [Around.deeper, Around.in1]; omega
      · show _ < _; dsimp only [Around.deeper, Around.in1]; omega
      rintro u h3 tk3 hk3 hf3 ⟨tm3, a3, dx3, f3, t3, n3, hs3, tf3, t13, t23, vs3, rfl, ha3, hdx3, hf3', M3⟩ F3 N3
      refine G_any (st_keep F3 N3 fun h4 F4 N4 hk4 => ?_)
      obtain ⟨oL, hoL, hdL⟩ := loc_obj F2.ns
      obtain ⟨q1', q2', q3', q4'⟩ := made_off M3 ha3 hdx3 hf3' hoL (.inr hdL) (hk3 _ _ hoL)
      have M4 := M3.but q1' q2' q3' q4' hk4
      have D4 := (D2.keeps hk3).but (x := L') ⟨oL', hoL'⟩ hk4
      have hvl : ∀ l, v = .ref l → ∃ o, h2.get? l = some o := fun l e => by
        subst e
        cases D2.is with
        | list hl _ => exact ⟨_, hl.choose_spec.1⟩
        | tuple hl _ => exact ⟨_, hl.choose_spec.1⟩
        | barr _ hl => exact ⟨_, hl⟩
      clear F2 N2 F3 N3 hk3 hf3 M3 D2 hk4 q1' q2' q3' q4' hoL hdL
      refine G_tk (s := s) (h := h4) rfl fun tk4 => ?_
      refine G_execs_cons (G_Expr (G_call2 (g := 428) F4 X T (by k_is) ⟨_, by k_is, _, rfl⟩ rfl rfl ?_ rfl rfl (by decide) rfl (by decide) rfl (by decide)))
      refine G_call ?_
      refine spoil_all (s := { s with heap := h4, toks := tk4 }) (by omega) (by omega) D4 hlen hFk B F4 N4 X T rfl rfl rfl rfl (by show _ < _; dsimp only [Around.deeper, Around.in1]; omega) (by show _ < _; dsimp only [Around.deeper, Around.in1]; omega) fun h5 tk5' S5 => ?_
      have M5 := S5.msg M4 ha3 hdx3 hf3' hvl
      have F5 := S5.fr F4 hN0 hLn
      have N5 := S5.news N4 hNn
      clear S5 M4 F4 N4 D4 M2 hvl hNn hN0 hLn ha3 hdx3 hf3'
      refine G_tk (s := s) (h := h5) rfl fun tk5 => ?_
      have hrow5 : h5.IsList D ys.toArray := News.isList (n := ys.length) N5 (by k_mem)
      refine G_execs_cons (G_If (G_isTrue_BoolOp (G_or_cons (G_notSame B F5 N5 X T rfl rfl M5 (by omega) hrr hrow5 hrs rfl rfl (by show _ < _; dsimp only [Around.deeper]; omega) (by show _ < _; dsimp only [Around.deeper]; omega) fun h6 tk6 hk6 F6 N6 => ?_))))
      clear M5 F5 N5 hk6 hrow5
      simp only [Bool.false_eq_true, if_false]
      have M6 := msg_of N6 (by k_mem) (by k_mem) (by k_mem) (by k_mem) lof hdof hit
      have hb6 : h6.IsList lb (List.toArray [Value.int (q.fmod 128) (tk2 + 1)]) := News.isList N6 (by k_mem)
      refine G_or_cons (G_notSame B F6 N6 X T rfl rfl M6 (Nat.le_of_ble_eq_true rfl) hr hb6 hib rfl rfl (by show _ < _; dsimp only [Around.deeper]; omega) (by show _ < _; dsimp only [Around.deeper]; omega) fun h7 tk7' hk7 F7 N7 => ?_)
      clear F6 N6 hk7 M6 hb6
      simp only [Bool.false_eq_true, if_false]
      refine G_or_nil ?_
      simp only [Bool.false_eq_true, if_false]
      refine G_execs_nil (G_execs_nil ⟨rfl, h7, tk7', _, _, rfl, F7, N7, ⟨fun y hy => ?_, rfl⟩, rfl, F7.keep⟩)
      simp only [turning2, List.mem_cons, List.not_mem_nil, or_false, not_or] at hy
      obtain ⟨y1, y2, y3⟩ := hy
      simp only [if_neg y1, if_neg y2, if_neg y3]
    case done2 =>
      clear F12 N12 hrd
      rintro m' nx' hh tkh ⟨hm2, rfl⟩ hmap F N _
      rw [over_of turning2 hm2] at F
      simp only [over] at F
      clear hmap hm2
      replace F : Fr s.heap L' hh _ := F
      replace N : News s.heap L' hh _ := N
      refine G_tk (s := s) (h := hh) rfl fun tkw => ?_
      refine G_execs_cons (G_any ?_)
      k_steps
      rename_i lw hw1 lq1 W ws hw2 hIw lq2 hw F8 N8
      obtain ⟨wlen, w256, wbad⟩ := wrong_ok (n := qn) hlen hrr
      have hdoor := fmod_low (x := qn.fdiv 8 + (i : Int)) (m := 4) (by decide)
      (try clear F); (try clear N)
      refine G_tk (s := s) (h := hw) rfl fun tkw2 => ?_
      refine G_execs_cons (G_If (G_isTrue_BoolOp (G_or_cons (G_isTrue_not (G_isTrue_Call (G_Call_Name ?_))))))
      refine nameX_K F8 X (topRead_of T) (by k_is) ?_ rfl rfl (by decide)
      obtain ⟨fo, hfo, fd, hfd⟩ : ∃ o, (hd.heap_39 w.params).lookup 435 = some o ∧ ∃ fd, o.data = .func fd := ⟨_, by k_is, _, rfl⟩
      refine G_callWith_args (o := fo) (fd := fd) ?_
      refine G_spliced_more (G_any (nameX_L F8 rfl ?_ rfl rfl (by decide)))
      refine G_spliced_more ?_
      refine G_call2 (g := 407) F8 X T (by k_is) ⟨_, by k_is, _, rfl⟩ rfl rfl ?_ rfl rfl (by decide) rfl (by decide) rfl (by decide)
      refine G_call ?_
      refine' CtrG.use (k := 1) (dress_spec (k := (i : Int)) (by omega) (by omega) (News.isList N8 (by k_mem)) hIw wlen w256) B F8 N8 X T rfl rfl rfl rfl ?_ ?_ ?_
      · show _ < _; dsimp only [Around.deeper, Around.in1]; omega
      · show _ < _; dsimp only [Around.deeper, Around.in1]; omega
      intro v h13 tk13 hk13 hf13 D13 F13 N13
      clear F8 N8 hk13 hf13
      refine G_spliced_more (G_any (nameX_L F13 rfl ?_ rfl rfl (by decide)))
      refine G_spliced_none ⟨⟨F13.keep _ _ (X _ _ hfo), hfd⟩, ?_⟩
      have M13 := msg_of N13 (by k_mem) (by k_mem) (by k_mem) (by k_mem) lof hdof hit
      refine G_call ?_
      refine' CtrRef.use (k := 10) (refused_spec (s := { s with heap := h13, toks := _ }) hdoor.1 (by omega) M13 D13.is w256 wbad wlen) B F13 N13 X T rfl rfl rfl rfl ?_ ?_ ?_
      · show _ < _; dsimp only [Around.deeper, Around.in1]; omega
      · show _ < _; dsimp only [Around.deeper, Around.in1]; omega
      intro h14 tk14 F14 N14
      clear F13 N13 D13 M13
      refine wpAny_truthy_bool ?_
      simp only [Bool.not_true, Bool.false_eq_true, if_false]
      have M14 := msg_of N14 (by k_mem) (by k_mem) (by k_mem) (by k_mem) lof hdof hit
      have hb14 : h14.IsList lb (List.toArray [Value.int (q.fmod 128) (tk2 + 1)]) := News.isList N14 (by k_mem)
      refine G_tk (s := s) (h := h14) rfl fun tk14' => ?_
      refine G_or_cons (G_notSame B F14 N14 X T rfl rfl M14 (Nat.le_of_ble_eq_true rfl) hr hb14 hib rfl rfl (by show _ < _; dsimp only [Around.deeper]; omega) (by show _ < _; dsimp only [Around.deeper]; omega) fun h15 tk15 hk15 F15 N15 => ?_)
      clear F14 N14 hk15 M14 hb14
      simp only [Bool.false_eq_true, if_false]
      refine G_or_nil ?_
      simp only [Bool.false_eq_true, if_false]
      refine G_execs_nil (G_execs_nil ⟨rfl, h15, tk15, _, _, rfl, F15, (fun p hp => N15 p (List.Mem.tail _ (List.Mem.tail _ (List.Mem.tail _ hp)))), ⟨fun y hy => ?_, oc2, _, rfl, doc2⟩, rfl, F15.keep⟩)
      simp only [turning, List.mem_cons, List.not_mem_nil, or_false, not_or] at hy
      obtain ⟨y1, y2, y3, y4, y5, y6, y7⟩ := hy
      simp only [if_neg y1, if_neg y2, if_neg y3, if_neg y4, if_neg y5, if_neg y6, if_neg y7]
end
end Mine
namespace Mine
set_option maxHeartbeats 4000000 in
theorem final : PySem.Challenge.rw_ae6013_01.Holds := by
  refine hd ?_
  k_fill
  intro w s₀ s₁ mg mb G Y fa o pm cd doc dV kV ho hdd hcd hD hmg hg args vals as hpre hlay hrd hwl hlo
  have KX := kIn_of Y
  refine Ground.open G ?_
  intro T B D TE TW
  have e440 := mg_of KX T.g (n := Str.ofString "law") (v := .ref 440) (by k_is)
  clear hD hcd ho hdd TE TW D
  wrow_args hpre hlay hrd hwl hlo
  rename_i z1 z2 z3 z4 z5 z6 z7 z8 lv us zw hL z9 z10 z11 hI z12 hlen z13
  obtain rfl : fa = 440 := by
    have e : some (Value.ref fa) = some (Value.ref 440) := hmg.symm.trans e440
    cases e; rfl
  refine law_spec hL hI (by omega) callerA s₁.heap [] _ rfl (below_caller _) KX T (by decide) (by decide) ⟨rfl, rfl⟩ ?_
  rintro v h' tk hk rfl
  exact GoodW.toG ⟨.inl ⟨_, .bool true, [], rfl, fun _ => rfl, .bool true, by wrow_post, fun _ => ⟨.nil, fun _ ha => nomatch ha⟩⟩, hk, rfl, hg⟩
end Mine
theorem PySem.Challenge.cw_ae6013_01_holds : PySem.Challenge.rw_ae6013_01.Holds :=
  Mine.final
