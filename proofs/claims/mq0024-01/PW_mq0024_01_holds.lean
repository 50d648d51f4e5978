import PyProof.Rows.All
import Wide.All
import OpenK.AllK
import Wide.FinOn
import PySem.Challenge.RW_mq0024_01
set_option maxRecDepth 100000
open PySem PySem.W PyProof.Rows PySem.Calls
set_option Elab.async false
set_option linter.all false
namespace Mine
/-! part PL -/
/-! A logic for clean contexts: no built-in that holds a bytearray's memory is on the stack; no exception leaves. -/
def holdIds : List String := ["bytearray.__contains__", "bytearray.__mod__", "bytearray.__rmod__", "_struct.pack_into.held", "bytearray.find.held"] ++ Builtin.Bytes.decodersThatHold
def holdsMem : Code → Bool
  | .builtin id _ => holdIds.contains id
  | _ => false
def CleanL (l : List (Code × Pos)) : Prop := ∀ x ∈ l, holdsMem x.1 = false
def wpP {α : Type} (M : Model) (A : Around) (t : Sem α) (Q : α → Shared → Prop) (s : Shared) : Prop :=
  ∀ Γ p, Γ.In A → holdsMem Γ.code = false → CleanL Γ.below → Sem.wp M Γ t (fun a _ s' => Q a s') (fun _ _ _ => False) p s
abbrev okR (R : Flow → Shared → Prop) (r : Result) (s' : Shared) : Prop := match r with
  | .ok f => R f s'
  | .error _ => False
def codeP (M : Model) (A : Around) (c : Code) (R : Flow → Shared → Prop) (s : Shared) : Prop :=
  ∀ Γ p, Γ.code = c → Γ.Below A → CleanL Γ.below → wpCode M Γ (okR R) p s
section
variable {α β : Type} {M : Model} {A : Around} {s : Shared}
theorem wpP_of {t : Sem α} {Q : α → Shared → Prop} (h : wpAny M A t Q (fun _ _ => False) s) : wpP M A t Q s := fun Γ p h1 _ _ => h Γ p h1
theorem codeP_of {c : Code} {R : Flow → Shared → Prop} (h : codeAny M A c (okR R) s) : codeP M A c R s := fun Γ p hc h1 _ => h Γ p hc h1
theorem wpP_pure {a : α} {Q : α → Shared → Prop} (h : Q a s) : wpP M A (pure a) Q s := fun _ _ _ _ _ => h
theorem wpP_mono {t : Sem α} {Q Q' : α → Shared → Prop} (h : wpP M A t Q s) (hQ : ∀ a s, Q a s → Q' a s) : wpP M A t Q' s :=
  fun Γ p h1 h2 h3 => Sem.wp_mono M Γ t (fun a _ s => hQ a s) (fun _ _ _ e => e) p s (h Γ p h1 h2 h3)
theorem wpP_bind {m : Sem α} {f : α → Sem β} {Q : β → Shared → Prop} (h : wpP M A m (fun a s' => wpP M A (f a) Q s') s) : wpP M A (m >>= f) Q s := fun Γ p h1 h2 h3 => by
  rw [Sem.wp_bind']
  exact Sem.wp_mono M Γ m (fun a p' s' h' => h' Γ p' h1 h2 h3) (fun _ _ _ e => e) p s (h Γ p h1 h2 h3)
theorem wpP_bindA {m : Sem α} {f : α → Sem β} {Q : β → Shared → Prop} (h : wpAny M A m (fun a s' => wpP M A (f a) Q s') (fun _ _ => False) s) : wpP M A (m >>= f) Q s := wpP_bind (wpP_of h)
theorem wpP_onRaise {m : Sem α} {k : Value → Sem Unit} {Q : α → Shared → Prop} (h : wpP M A m Q s) : wpP M A (m.onRaise k) Q s := fun Γ p h1 h2 h3 => by
  rw [Sem.wp_onRaise]
  exact Sem.wp_mono M Γ m (fun _ _ _ h' => h') (fun _ _ _ e => e.elim) p s (h Γ p h1 h2 h3)
theorem wpP_holding {vs : List Value} {m : Sem α} {Q : α → Shared → Prop} (h : wpP M A m Q s) : wpP M A (holding vs m) Q s := fun Γ p h1 h2 h3 => by
  rw [Sem.wp_holding]; exact h Γ p h1 h2 h3
theorem wpP_keep {vs : List Value} {m : Sem α} {Q : α → Shared → Prop} (h : wpP M A m Q s) : wpP M A (m.keep vs) Q s := fun Γ p h1 h2 h3 => by
  rw [Sem.wp_keep]; exact h Γ p h1 h2 h3
theorem wpP_operate {vs : List Value} {m : Sem Value} {Q : Value → Shared → Prop} (h : wpP M A m Q s) : wpP M A (operate vs m) Q s := fun Γ p h1 h2 h3 => by
  rw [Sem.wp_operate]; exact h Γ p h1 h2 h3
theorem cleanL_cons {c : Code} {p : Pos} {l : List (Code × Pos)} (h : holdsMem c = false) (k : CleanL l) : CleanL ((c, p) :: l) := fun x hx => by
  rcases List.mem_cons.mp hx with rfl | hx
  · exact h
  · exact k x hx
theorem wpP_run {c : Code} {h : Option Value} {Q : Flow → Shared → Prop} (hc : codeP M (A.mark h) c Q s) (hnb : h ≠ some byPass := by intro x; cases x) : wpP M A (run c h) Q s :=
  fun Γ p h1 h2 h3 => by
    rw [Sem.wp_run]
    refine wpCode_mono (fun r s' hr => ?_) (hc (Γ.enter c h p) p rfl (h1.enter c h p hnb) (cleanL_cons h2 h3))
    cases r with
    | ok f => exact hr
    | error e => exact hr.elim
theorem wpP_runValue {c : Code} {Q : Value → Shared → Prop} (hc : codeP M A c (fun f s' => ∃ v, f = .ret v ∧ Q v s') s) : wpP M A (runValue c) Q s := by
  unfold runValue
  refine wpP_bind (wpP_mono (wpP_run (h := none) (by exact hc)) fun f s' hf => ?_)
  obtain ⟨v, rfl, hq⟩ := hf
  exact wpP_pure hq
theorem wpP_call {f : Value} {pos : List Value} {kw : List (Str × Value)} {Q : Value → Shared → Prop} (hc : codeP M A (.call f ⟨pos, kw⟩) (fun f s' => ∃ v, f = .ret v ∧ Q v s') s) : wpP M A (call f pos kw) Q s := wpP_runValue hc
theorem codeP_mono {c : Code} {R R' : Flow → Shared → Prop} (h : codeP M A c R s) (hR : ∀ f s, R f s → R' f s) : codeP M A c R' s :=
  fun Γ p hc h1 h2 => wpCode_mono (fun r s' hr => by cases r with | ok f => exact hR _ _ hr | error e => exact hr) (h Γ p hc h1 h2)
theorem codeP_of_tree {c : Code} {R : Flow → Shared → Prop} (hh : holdsMem c = false)
    (h : wpP M (A.under c) (M.den c) (fun fin s' => match fin with | .done f => R f s' | .again c' => c'.quiet = true ∧ codeP M A c' R s') s) : codeP M A c R s := fun Γ p hc h1 h2 => by
  rw [wpCode_iff_wp, hc]
  refine Sem.wp_mono M Γ _ (fun fin p' s' h' => ?_) (fun _ _ _ e => e.elim) p s (h Γ p (hc ▸ h1.in) (by rw [hc]; exact hh) h2)
  cases fin with
  | done f => exact h'
  | again c' => exact ⟨h'.1, h'.2 (Γ.goto c') p' rfl (h1.goto c') h2⟩
end

section
variable {prog : Program} {w : World} {A : Around} {s : Shared} {R : Flow → Shared → Prop} {env : Env}
theorem codeP_builtin {id : String} {args : Args} {b : Builtin} (hh : holdIds.contains id = false) (hb : entryFor table id = some b)
    (h : wpP (model prog w) (A.under (.builtin id args)) (b args) (fun fin s' => match fin with | .done f => R f s' | .again c' => c'.quiet = true ∧ codeP (model prog w) A c' R s') s) :
    codeP (model prog w) A (.builtin id args) R s := by
  refine codeP_of_tree hh ?_
  show wpP _ _ (match entryFor table id with | some b => b args | none => unsupported ((withoutEnding? id "#data").getD id)) _ s
  rw [hb]; exact h
theorem codeP_call_builtin {id : String} {args : Args} {b : Builtin} (hh : holdIds.contains id = false) (hq : plainId id = true) (hb : entryFor table id = some b)
    (h : wpAny (model prog w) A.in1 (checkBuiltinCall id args) (fun _ s₁ => wpP (model prog w) A.in1 (b args)
      (fun fin s' => match fin with | .done f => R f s' | .again c' => c'.quiet = true ∧ codeP (model prog w) A c' R s') s₁) (fun _ _ => False) s) : codeP (model prog w) A (.call (.builtin id) args) R s := by
  refine codeP_of_tree rfl ?_
  show wpP _ A.in1 (do checkBuiltinCall id args; again (.builtin id args)) _ s
  refine wpP_bindA (wpAny_mono h (fun _ s₁ h₁ => wpP_pure (And.intro (plainId_quiet hq args) (codeP_builtin hh hb ?_))) fun _ _ h' => h')
  rw [Around.under_plainId hq args]; exact h₁
theorem codeP_func {body : List Stmt} (h : wpP (model prog w) (A.deeper env) (execs body env) (fun f s' => R (.ret (match f with | .ret v => v | _ => .none)) s') s) : codeP (model prog w) A (.func body env) R s := by
  refine codeP_of_tree rfl ?_
  show wpP _ (A.deeper env) (do point; match ← (execs body env).onRaise (leaving env) with | .ret v => ret v | _ => ret .none) _ s
  refine wpP_bindA (wpAny_point (wpP_bind (wpP_onRaise (wpP_mono h fun f s' h' => ?_))))
  cases f <;> exact wpP_pure h'
theorem codeP_call_def {a : Addr} {o : Obj} {fd : FuncData} {body : List Stmt} {args : Args} {binds : List (Str × Value)}
    (hroom : A.depth < recursionLimit) (ho : s.heap.get? a = some o) (hdata : o.data = .func fd) (hlim : s.heap.NoLimit) (hcd : s.heap.CodeRec fd.code fd.qualname)
    (hbody : fd.body = .stmts body) (hbind : BindsTo s fd args binds)
    (hcell : ∀ x ∈ fd.scope.names, x.2 ≠ .cell) (hloc : ∀ x ∈ binds, fd.scope.names.lookup x.1 = some .local)
    (h : ∀ h₀, h₀.Ns s.heap.objs.size (fun x => binds.reverse.lookup x) → (∀ b o, s.heap.get? b = some o → h₀.get? b = some o) →
      wpP (model prog w) (A.deeper (callEnv fd s.heap.objs.size a)) (execs body (callEnv fd s.heap.objs.size a)) (fun f s' => R (.ret (match f with | .ret v => v | _ => .none)) s')
        { s with heap := h₀, toks := s.toks + binds.length })
    (hco : fd.scope.isCoroutine = false) (hgen : fd.scope.isGenerator = false) (hk : fd.scope.kind = .function) :
    codeP (model prog w) A (.call (.ref a) args) R s := by
  refine codeP_of_tree rfl ?_
  show wpP _ A.in1 (callAny (.ref a) args) _ s
  simp only [callAny]
  refine wpP_bindA (wpAny_load ho ?_)
  obtain ⟨c, oc, vs, tq, hc, hoc, hdc, hq⟩ := hcd
  simp only [hdata, callFunction, hco, hgen, hbody, hc]
  simp only [callEnv, hc] at h
  refine wpP_bindA (m := field (.ref c) 1) (wpAny_field hoc hdc hq (wpP_bindA (wpAny_pure ?_)))
  refine wpP_bindA (hbind _ _ _ _ (wpP_bindA ?_))
  refine wpAny_newFunctionEnv hcell hloc (fun h₀ hns₀ hsb₀ => wpP_bindA (wpAny_enterFrame (hlim.fresh _ hsb₀) hroom (wpP_pure (And.intro rfl (codeP_func (h h₀ hns₀ fun b o e => ?_)))))) hk
  exact hsb₀.extBut b o (Nat.ne_of_lt (Heap.lt_size e)) (Heap.get?_push_of_some _ e)
end

section
variable {M : Model} {A : Around} {s : Shared} {env : Env}
theorem pExecs_cons {st : Stmt} {rest : List Stmt} {Q : Flow → Shared → Prop} (h : wpP M A (exec st env) (fun f s' => match f with | .next => wpP M A (execs rest env) Q s' | f => Q f s') s) : wpP M A (execs (st :: rest) env) Q s := by
  rw [execs_cons]
  refine wpP_bind (wpP_mono h fun f s' h' => ?_)
  cases f <;> first | exact h' | exact wpP_pure h'
/-- a statement that is walked in the library's logic -/
theorem pExecs_any {st : Stmt} {rest : List Stmt} {Q : Flow → Shared → Prop} (h : wpAny M A (exec st env) (fun f s' => match f with | .next => wpP M A (execs rest env) Q s' | f => Q f s') (fun _ _ => False) s) : wpP M A (execs (st :: rest) env) Q s := pExecs_cons (wpP_of h)
theorem pExecs_nil {Q : Flow → Shared → Prop} (h : Q .next s) : wpP M A (execs [] env) Q s := fun _ _ _ _ _ => h
theorem pAssign_Name {x : Str} {pos' pos : Pos} {value : Expr} {Q : Flow → Shared → Prop}
    (h : wpP M A (eval value env) (fun v s₁ => wpAny M A (storeName env x v) (fun _ => Q .next) (fun _ _ => False) s₁) s)
    (hs : swapsWith value (some (.Name x pos')) pos.line env = pure false := by rfl) : wpP M A (exec (.Assign [.Name x pos'] value pos) env) Q s := by
  rw [exec_Assign_Name env x pos' value pos hs]
  refine wpP_bindA (wpAny_standAt (wpP_bind (wpP_mono h fun v s₁ h₁ => ?_)))
  exact wpP_bindA (wpAny_standAt (wpP_bindA (wpAny_bindName (wpAny_mono h₁ (fun _ s₂ h₂ => wpP_pure h₂) fun _ _ e => e))))
theorem pReturn_some {e : Expr} {pos : Pos} {Q : Flow → Shared → Prop} (h : wpP M A (eval e env) (fun v => Q (.ret v)) s) : wpP M A (exec (.Return (some e) pos) env) Q s := by
  rw [exec_Return_some]
  exact wpP_bindA (wpAny_standAt (wpP_bind (wpP_mono h fun v s₁ h₁ => wpP_pure h₁)))
theorem pExpr {e : Expr} {pos : Pos} {Q : Flow → Shared → Prop} (h : wpP M A (eval e env) (fun v s' => v = .none ∧ Q .next s') s)
    (hi : interactive env = false := by rfl) (hs : swapsWith e none pos.line env = pure false := by rfl) : wpP M A (exec (.Expr e pos) env) Q s := by
  rw [exec_Expr env e pos hi hs]
  refine wpP_bindA (wpAny_standAt (wpP_bind (wpP_mono h fun v s₁ h₁ => ?_)))
  obtain ⟨rfl, h₁⟩ := h₁
  rw [dropValue_plain (fun a e => by cases e)]
  exact wpP_pure h₁
theorem pIf {test : Expr} {body orelse : List Stmt} {pos : Pos} {Q : Flow → Shared → Prop}
    (h : wpP M A (isTrue test env (eval test env)) (fun b s₂ => if b then wpP M A (execs body env) Q s₂ else wpP M A (execs orelse env) Q s₂) s) : wpP M A (exec (.If test body orelse pos) env) Q s := by
  rw [exec_If]
  refine wpP_bindA (wpAny_standAt (wpP_bind (wpP_mono h fun b s₁ h₁ => ?_)))
  cases b <;> exact h₁
theorem pIsTrue_Compare1 {l r : Expr} {op : CmpOp} {pos : Pos} {whole : Sem Value} {Q : Bool → Shared → Prop}
    (h : wpP M A (eval l env) (fun a s₁ => wpP M A (eval r env) (fun b s₂ => wpP M A (compareOp op a b) (fun c s₃ => wpP M A (truthy c) Q s₃) s₂) s₁) s)
    (hm : behindInMarks op r = false := by with_unfolding_all rfl) : wpP M A (isTrue (.Compare l [op] [r] pos) env whole) Q s := by
  rw [isTrue_Compare1, markedBehindIn_of_false hm]
  exact wpP_bind (wpP_mono h fun a s₁ h₁ => wpP_bind (wpP_holding (wpP_mono h₁ fun b s₂ h₂ => wpP_bindA (wpAny_standAt (wpP_bind (wpP_operate (wpP_mono h₂ fun c s₃ h₃ => wpP_holding h₃)))))))
theorem pBinOp {l r : Expr} {op : Operator} {pos : Pos} {Q : Value → Shared → Prop}
    (h : wpP M A (eval l env) (fun a s₁ => wpP M A (eval r env) (fun b s₂ => wpP M A (binaryOp op a b) Q s₂) s₁) s) : wpP M A (eval (.BinOp l op r pos) env) Q s := by
  rw [eval_BinOp]
  exact wpP_bind (wpP_mono h fun a s₁ h₁ => wpP_bind (wpP_holding (wpP_mono h₁ fun b s₂ h₂ => wpP_bindA (wpAny_standAt (wpP_operate h₂)))))
theorem pRunOwn {c : Code} {Q : Flow → Shared → Prop} (h : codeP M A c Q s) : wpP M A (runOwn c env) Q s := by
  unfold runOwn
  exact wpP_onRaise (wpP_run (h := none) (by exact h))
theorem pSpliced_nil {Q : List Value → Shared → Prop} (h : Q [] s) : wpP M A (spliced []) Q s := wpP_pure h
theorem pSpliced_cons {x : Sem Value} {rest : List (Bool × Sem Value)} {Q : List Value → Shared → Prop}
    (h : wpP M A x (fun v s₁ => wpP M A (spliced rest) (fun vs s₂ => Q (v :: vs) s₂) s₁) s) : wpP M A (spliced ((false, x) :: rest)) Q s := by
  rw [spliced]
  refine wpP_bind (wpP_mono h fun v s₁ h₁ => ?_)
  simp only [Bool.false_eq_true, if_false]
  exact wpP_bindA (wpAny_pure (wpP_bind (wpP_holding (wpP_mono h₁ fun vs s₂ h₂ => wpP_pure h₂))))
theorem pEvalArgs {f : Value} {x : Sem Value} {rest : List (Bool × Sem Value)} {Q : Args → Shared → Prop}
    (h : wpP M A (spliced ((false, x) :: rest)) (fun vs s' => Q ⟨vs, []⟩ s') s) : wpP M A (evalArgs f true ((false, x) :: rest) []) Q s := by
  unfold evalArgs
  show wpP M A (spliced ((false, x) :: rest) >>= _) Q s
  refine wpP_bind (wpP_mono h fun vs s' h' => ?_)
  refine wpP_holding ?_
  exact wpP_bindA (wpAny_pure (wpP_bindA (wpAny_pure (wpP_pure h'))))
end
section
variable {prog : Program} {w : World} {A : Around} {s : Shared} {env : Env}
theorem codeP_while {test : Expr} {body : List Stmt} {R : Flow → Shared → Prop} (I : Nat → Shared → Prop)
    (turn : ∀ n s, I n s → wpP (model prog w) A (isTrue test env (eval test env)) (fun b s₂ =>
        if b then wpP (model prog w) A (execs body env) (fun f s₃ => match f with
            | .next | .cont => ∃ m, m < n ∧ I m s₃
            | .brk => R .next s₃
            | .ret v => R (.ret v) s₃) s₂
        else R .next s₂) s)
    (n : Nat) (h : I n s) : codeP (model prog w) A (.whileLoop test body [] env) R s := by
  induction n using Nat.strongRecOn generalizing s with
  | ind n ih =>
    refine codeP_of_tree rfl ?_
    show wpP _ A ((whileTurn test body [] env).onRaise (fun x => do noteFrame x env; theTreesLotGoes x)) _ s
    refine wpP_onRaise ?_
    simp only [whileTurn]
    refine wpP_bind (wpP_mono (turn n s h) fun b s₂ h₂ => ?_)
    cases b with
    | false =>
      simp only [Bool.false_eq_true, if_false] at h₂ ⊢
      exact wpP_bind (pExecs_nil (wpP_pure h₂))
    | true =>
      simp only [if_true] at h₂ ⊢
      refine wpP_bind (wpP_mono h₂ fun f s₃ h₃ => ?_)
      cases f with
      | next => obtain ⟨m, hm, hI⟩ := h₃; exact wpP_pure ⟨rfl, ih m hm hI⟩
      | cont => obtain ⟨m, hm, hI⟩ := h₃; exact wpP_pure ⟨rfl, ih m hm hI⟩
      | brk => exact wpP_pure h₃
      | ret v => exact wpP_pure h₃
theorem pWhile {test : Expr} {body : List Stmt} {pos : Pos} {Q : Flow → Shared → Prop} (h : codeP (model prog w) A (.whileLoop test body [] env) Q s) : wpP (model prog w) A (exec (.While test body [] pos) env) Q s := by
  rw [exec_While]
  exact wpP_bindA (wpAny_standAt (pRunOwn h))
theorem codeP_for {target : Expr} {it : Value} {body : List Stmt} {R : Flow → Shared → Prop} (I : Nat → Shared → Prop)
    (turn : ∀ n s, I n s → wpAny (model prog w) A (pyNext it) (fun r s₁ => match r with
      | none => R .next s₁
      | some v => wpAny (model prog w) A (letOwnedTupleGo target it v) (fun _ s₁ => wpAny (model prog w) A (assign target env v) (fun _ s₂ => wpP (model prog w) A (execs body env) (fun f s₃ => match f with
          | .next | .cont => ∃ m, m < n ∧ I m s₃
          | .brk => R .next s₃
          | .ret v => R (.ret v) s₃) s₂) (fun _ _ => False) s₁) (fun _ _ => False) s₁) (fun _ _ => False) s)
    (n : Nat) (h : I n s) : codeP (model prog w) A (.forLoop target it body [] env) R s := by
  induction n using Nat.strongRecOn generalizing s with
  | ind n ih =>
    refine codeP_of_tree rfl ?_
    show wpP _ _ ((forTurn target it body [] env).onRaise (fun x => do noteFrame x env; theTreesLotGoes x)) _ s
    refine wpP_onRaise ?_
    simp only [forTurn]
    refine wpP_bindA (wpAny_standAt (wpP_bind (wpP_onRaise (wpP_mono (wpP_of (turn n s h)) fun r s₁ h₁ => ?_))))
    cases r with
    | none =>
      refine wpP_pure ⟨rfl, codeP_of_tree rfl ?_⟩
      show wpP _ _ (do return Fin.done (← (execs [] env).onRaise (fun x => do noteFrame x env; theTreesLotGoes x))) _ s₁
      exact wpP_bind (wpP_onRaise (pExecs_nil (wpP_pure h₁)))
    | some v =>
      refine wpP_bindA (wpAny_mono h₁ (fun _ s₂ h₂ => wpP_bindA (wpAny_mono h₂ (fun _ s₃ h₃ => wpP_bind (wpP_mono h₃ fun f s₄ h₄ => ?_)) fun _ _ e => e)) fun _ _ e => e)
      cases f with
      | next => obtain ⟨m, hm, hI⟩ := h₄; exact wpP_pure ⟨rfl, ih m hm hI⟩
      | cont => obtain ⟨m, hm, hI⟩ := h₄; exact wpP_pure ⟨rfl, ih m hm hI⟩
      | brk => exact wpP_pure h₄
      | ret v => exact wpP_pure h₄
theorem pFor {target iter : Expr} {body : List Stmt} {pos : Pos} {Q : Flow → Shared → Prop}
    (h : wpAny (model prog w) A (eval iter env) (fun x s₁ => wpAny (model prog w) A (pyIter x) (fun it s₂ => codeP (model prog w) A (.forLoop target it body [] env) Q s₂) (fun _ _ => False) s₁) (fun _ _ => False) s)
    (hs : ∀ x, foldedSetIterable iter env x = pure x := by intro _; rfl) : wpP (model prog w) A (exec (.For target iter body [] pos) env) Q s := by
  rw [exec_For]
  exact wpP_bindA (wpAny_standAt (wpP_bindA (wpAny_mono h (fun x s₁ h₁ => wpP_bindA (wpAny_of_eq (hs x) (wpP_bindA (wpAny_standAt (wpP_bind (wpP_holding (wpP_of
    (wpAny_mono h₁ (fun it s₂ h₂ => pRunOwn h₂) fun _ _ h' => h')))))))) fun _ _ h' => h')))
end

/-! part HeadP -/
/-! The head for this one law, over stacks on which nothing holds a buffer: the call is run from the caller's own place, which is such a stack. -/
section
open PySem.Spec
/-- all that stood stands -/
abbrev Kept (h h' : Heap) : Prop := ∀ b o, h.get? b = some o → h'.get? b = some o
/-- the call has come back with True, and nothing else is seen of it -/
def Came (args : List WData) (s₁ : Shared) (v : Value) (s' : Shared) : Prop :=
  v = .bool true ∧ PySem.Challenge.rw_mq0024_01.row.claim.post args (.bool true) args = true ∧ Kept s₁.heap s'.heap ∧ s'.os = s₁.os ∧ s'.gens = #[]
/-- a tree that comes back on clean stacks is run to its end by the machine -/
theorem runs_out {w : World} {t : Sem Fin} {K : Value → Shared → Prop} {s : Shared} (hz : s.asleep)
    (h : wpP (model PySem.Challenge.rw_mq0024_01.row.prog w) callerA t (fun f s' => ∃ v, f = .done (.ret v) ∧ s'.gens = #[] ∧ K v s') s) :
    ∃ n v s' s'', schedN (denote table) PySem.Challenge.rw_mq0024_01.row.prog w n (.single s ⟨t, .builtin "claim.caller" {}, default, []⟩) = .halted (.done (.ret v)) s'' ∧
      s''.heap.life = s.heap.life ∧ s''.forget = s'.forget ∧ K v s' := by
  have start := h _ default caller_in (by decide +kernel) (fun _ m => nomatch m)
  obtain ⟨n, _, s', s'', run, run', eq, v, rfl, hK⟩ := wp_halts_full (R := fun r s' => ∃ v, r = .ok (.ret v) ∧ K v s') hz (Sem.wp_mono _ _ t (fun f p s' q => by
    obtain ⟨v, rfl, hg, hK⟩ := q
    exact ⟨⟨v, rfl, hK⟩, leftWithCleanup_false_of_bare (AllBare.of_eq hg)⟩) (fun _ _ _ no => no.elim) default s start)
  exact ⟨n, v, s', s'', run, runN_life _ _ _ run', eq, hK⟩
/-- what is to be walked: behind the top, with the script laid, law comes back so on clean stacks -/
def LawWalk (q : Program) (loose : List Str) (XP : (Str → Option Value) → Heap → Prop) (YP : World → Heap → Prop) (d : DefRec) (kwd : List (Str × Expr)) : Prop :=
  ∀ (w : World) (s s₁ : Shared) (mg mb : Str → Option Value) (args : List WData) (vs : List Value) (as : List Addr), defOf q PySem.Challenge.rw_mq0024_01.row.name = some (d, kwd) →
    Ground q loose PySem.Challenge.rw_mq0024_01.row.records XP w s mg mb s₁.heap → YP w s₁.heap → PySem.Challenge.rw_mq0024_01.row.claim.pre args = true → WData.layableAll args = true →
    Laid PySem.Challenge.rw_mq0024_01.row.records w s s₁ args vs as → sysModules < s.heap.objs.size →
    ∃ f, mg PySem.Challenge.rw_mq0024_01.row.name = some f ∧ wpP (model PySem.Challenge.rw_mq0024_01.row.prog w) callerA (call f vs) (Came args s₁) s₁
section
variable {q : Program} {loose : List Str} {XP : (Str → Option Value) → Heap → Prop} {YP : World → Heap → Prop} {d : DefRec} {kwd : List (Str × Expr)} {w : World} {s : Shared} {mg mb : Str → Option Value}
theorem law_called {free : Addr → Prop} {gn : Prop} {kept : Heap → Prop} (walk : LawWalk q loose XP YP d kwd) (hdef : defOf q PySem.Challenge.rw_mq0024_01.row.name = some (d, kwd))
    (G : Ground q loose PySem.Challenge.rw_mq0024_01.row.records XP w s mg mb s.heap) (y : YP w s.heap) (xk : ∀ m h h', XP m h → Kept h h' → XP m h') (yk : ∀ w h h', YP w h → Kept h h' → YP w h')
    (hz : s.asleep) (hg : s.gens = #[]) (hk : ∀ h, kept h) : PySem.Challenge.rw_mq0024_01.row.claim.CallFrom (callStub PySem.Challenge.rw_mq0024_01.row.name) w free gn kept s := by
  intro args hp hl ord ho
  cases e : layAllW PySem.Challenge.rw_mq0024_01.row.records (classAt s.heap) w.params ord args s with
  | none =>
    have some := layAllW_isSome (P := w.params) (ord := ord) G.has args _ s (pre_splitW hp).1
    rw [e] at some
    cases some
  | some r =>
    obtain ⟨vs, s₁⟩ := r
    have like := layAllW_rest _ _ _ e
    have up := layAllW_keeps _ _ _ e
    obtain ⟨as, rd, lo, od⟩ := reads_layAllW ho _ _ _ e hl s₁.heap fun _ _ z => z
    have L : Laid PySem.Challenge.rw_mq0024_01.row.records w s s₁ args vs as := { laid := ⟨ord, ho, e⟩, reads := rd, within := lo, old := od, keeps := up, gens := like.1.trans hg, os := like.2.2.1 }
    have G' := G.keeps xk up
    obtain ⟨f, hf, comes⟩ := walk w s s₁ mg mb args vs as hdef G' (yk _ _ _ y up) hp hl L G.low
    obtain ⟨n, v, s', s'', run, life, eq, rfl, post, stay, os, _⟩ := runs_out (t := (callStub PySem.Challenge.rw_mq0024_01.row.name vs).cur) (K := Came args s₁) (Shared.asleep_of_life like.2.2.2 hz) (by
      refine wpP_bindA (wpAny_nsGet G'.T.g ?_)
      rw [hf]
      exact wpP_bind (wpP_mono comes fun v s' c => wpP_pure ⟨v, rfl, c.2.2.2.2, c⟩))
    have same := Shared.forget_eq eq
    have stay' : Kept s₁.heap s''.heap := same.1 ▸ stay
    refine ⟨vs, s₁, e, n, _, s'', run, .inl ⟨.bool true, rfl, fun _ => rfl, ⟨.bool true, args, [], as, ReadsW.bool true, rd.keepsK fun b o z _ => stay' b o z, post, ?_, fun _ _ => ident_freeW rfl rfl rfl _ _⟩, ?_, ?_, ?_⟩, ?_, hk _, ?_, ?_⟩
    · exact fun _ => ⟨List.nodup_nil, fun _ m => (nomatch m), fun _ m => (nomatch m)⟩
    · exact fun _ z => (nomatch z)
    · exact fun b o z _ _ _ => .inl (stay' b o z)
    · exact fun _ m => (nomatch m)
    · intro _ i x z
      rw [hg] at z
      simp at z
    · rw [life, like.2.2.2]
    · exact Shared.rest_eq (same.2.2.2.1.trans (os.trans like.2.2.1))
end
/-- the name is the one that the head's maker asks for: it takes the nearest of that name, and this one is made for the law alone -/
theorem PySem.W.holds_open {q : Program} {loose : List Str} {Xt : Shared → Bool} {XP : (Str → Option Value) → Heap → Prop} {α : Type} {Yf : Shared → α} {Ya : World → α} {YP : World → Heap → Prop} {d : DefRec} {kwd : List (Str × Expr)} {N : Nat}
    (left : LeftO PySem.Challenge.rw_mq0024_01.row.prog q loose Xt Yf Ya N) (yb : ∀ w s, Yf s = Ya w → YP w s.heap) (yk : ∀ w h h', YP w h → Kept h h' → YP w h')
    (xb : ∀ s, Xt s = true → XP (s.heap.nsMap mainGlobals) s.heap) (xk : ∀ m h h', XP m h → Kept h h' → XP m h')
    (hdef : defOf q PySem.Challenge.rw_mq0024_01.row.name = some (d, kwd)) (its : PySem.Challenge.rw_mq0024_01.row.prog.theDef PySem.Challenge.rw_mq0024_01.row.name = some (d.params, d.body, d.scope))
    (kws : kwWritten? d.params.kwonlyargs d.params.kw_defaults = some kwd) (_ : ∀ s, Xt s = true → RecFacts PySem.Challenge.rw_mq0024_01.row.records s.heap) (_ : (!PySem.Challenge.rw_mq0024_01.row.writes) = true)
    (said : PySem.Challenge.rw_mq0024_01.row.wellSaid = true) (ok : (chainsOk q && opensWell PySem.Challenge.rw_mq0024_01.row.prog) = true) (bare : PySem.Challenge.rw_mq0024_01.row.prog.bare)
    (prom : PySem.Challenge.rw_mq0024_01.row.toRowW.promised) (walk : LawWalk q loose XP YP d kwd) : PySem.Challenge.rw_mq0024_01.row.Holds := by
  have ok := Bool.and_eq_true_iff.mp ok
  have behind := fun w => left.behind xb ok.1 w
  refine ⟨said, prom, ⟨bare, ok.2, rfl⟩, prom.witness, fun w => ⟨(behind w).1, fun e he => ?_⟩⟩
  obtain ⟨s₀, fence, none₀, s, top, sleeps, gens, isNs, G, y⟩ := (behind w).2 e he
  have pinned := pinned_of_view isNs G hdef its kws
  refine ⟨s₀, fence, none₀, s, top, fun n m => ?_, fun _ m => (nomatch m), fun _ m => (nomatch m), ?_⟩
  · cases m with
    | head => exact pinned
    | tail _ m => nomatch m
  · exact law_called walk hdef G (yb w s y) xk yk sleeps (Array.eq_empty_of_size_eq_zero (beq_iff_eq.mp gens)) (fun _ no => nomatch no)
end

/-! part Hd -/
set_option maxHeartbeats 8000000 in
open_top hd for PySem.Challenge.rw_mq0024_01

/-! part Base -/

/-- a pure call's contract: what stood stands, and Post of what comes back -/
def PCon (w : World) (f : Addr) (d u : Nat) (vs : List Value) (Pre : Heap → Prop) (Post : Heap → Heap → Value → Prop) : Prop :=
  ∀ (dp un : Nat) (gd : Option (List Code)) (cn : Str) (cs : Scope) (a : Addr) (ccd : Value) (cl : List (Str × Addr)) (outer : List Env) (A₀ : Around) (base h₀ : Heap) (L : Addr) (m : Str → Option Value)
    (mean : ExcName → Option Value) (mg mb : Str → Option Value) (s : Shared) (Q E : Value → Shared → Prop),
    Below A₀ base outer h₀ → Fr h₀ L s.heap m → (hd.heap_39 w.params).In h₀ → Top hd.view_39 (looseW hd.view_39 []) mean mg mb h₀ → cs.kind = .function → Pre s.heap → dp + d < recursionLimit → un + u < cLine →
    (∀ v h' tk', Kept s.heap h' → Post s.heap h' v → Q v { s with heap := h', toks := tk' }) →
    wpAny (model PySem.Challenge.rw_mq0024_01.row.prog w) (ktrTop dp un gd cn cs L a ccd cl outer) (call (.ref f) vs) Q E s

section
variable {prog : Program} {w : World} {A A₀ : Around} {s : Shared} {K : Frag} {L : Addr} {h₀ base : Heap} {m mg mb : Str → Option Value} {p : Program} {loose : List Str} {mean : ExcName → Option Value}
theorem code_pure {env : Env} {outer : List Env} {R : Result → Shared → Prop} {name qual : Str} {params : Arguments} {body : List Stmt} {scope : Scope} {dV kV doc pm cdv ct oc : Value} {an od : Option Addr} {osl : Array (Option Value)} {f : Addr} {args : Args} {binds : List (Str × Value)}
    (B : Below A₀ base outer h₀) (F : Fr h₀ L s.heap m) (X₀ : K.In h₀) (T : Top p loose mean mg mb h₀) (hA : A.frames = some (env :: outer)) (hf : env.frame = some L) (hke : env.scope.kind = .function)
    (ho : K.lookup f = some ⟨oc, od, .func (fnOf name qual params body scope dV kV doc pm an cdv ct), osl⟩) (hcd : codeIn K cdv qual = true) (hroom : A.depth < recursionLimit)
    (hbind : BindsTo s (fnOf name qual params body scope dV kV doc pm an cdv ct) args binds) (hloc : ∀ y ∈ binds, scope.names.lookup y.1 = some .local)
    (h : ∀ L' h₁, Fr s.heap L' h₁ (fun y => binds.reverse.lookup y) → News s.heap L' h₁ [] → Below A base (env :: outer) s.heap → K.In s.heap → Top p loose mean mg mb s.heap →
      wpAny (model prog w) (A.deeper (envOf qual scope L' f cdv)) (execs body (envOf qual scope L' f cdv))
        (fun fl s' => R (.ok (.ret (match fl with | .ret v => v | _ => .none))) s')
        (fun e s' => wpAny (model prog w) (A.deeper (envOf qual scope L' f cdv)) (leaving (envOf qual scope L' f cdv) e) (fun _ s'' => R (.error e) s'') (fun e' s'' => R (.error e') s'') s')
        { s with heap := h₁, toks := s.toks + binds.length })
    (hco : scope.isCoroutine = false) (hgen : scope.isGenerator = false) (hk : scope.kind = .function)
    (hcell : ∀ x ∈ scope.names, x.2 ≠ .cell) : codeAny (model prog w) A (.call (.ref f) args) R s := by
  have X := X₀.keeps F.keep
  obtain ⟨FG, BG, st, lv⟩ := groundX (R := R) B F (News.nil) hA hf hke
  refine codeAny_call_def (fd := fnOf name qual params body scope dV kV doc pm an cdv ct) (body := body) (binds := binds) hroom (X _ _ ho) rfl (T.nolimit.keeps F.keep) (codeRec_of X hcd) rfl hbind hcell hloc (fun h₁ hns hk₁ => ?_) hco hgen hk
  exact h s.heap.objs.size h₁ ⟨hns, hk₁, Nat.le_refl _⟩ News.nil BG X (T.keeps F.keep)

theorem Fr.kept {h h' : Heap} (F : Fr h₀ L h m) (k : Kept h h') : Fr h₀ L h' m := by
  obtain ⟨oL, a1, a2, hL, a3⟩ := F.ns
  exact ⟨⟨oL, a1, a2, k _ _ hL, a3⟩, fun b o e => k b o (F.keep b o e), F.above⟩
theorem News.kept {h h' : Heap} {news : List (Addr × Obj)} (N : News h₀ L h news) (k : Kept h h') : News h₀ L h' news :=
  fun p hp => ⟨k _ _ (N p hp).1, (N p hp).2⟩
end

local macro_rules | `(tactic| walk_at $s:str) => `(tactic| k_extra $s)
local macro_rules | `(tactic| walk_at "mine ent") => `(tactic| ((case kA => exact rfl); (case kF => exact rfl); (case kK => assumption); (case k1 => k_asm); (case k2 => k_asm); (case k3 => k_asm); (case k5 => k_asm); (case k6 => k_is); (case k7 => k_is); (case k8 => ktr_room); (case k9 => exact BindsTo.of_eq rfl); (case c5 => decide); (case kB => exact locs rfl); (case c2 => exact rfl); (case c3 => exact rfl); (case c4 => exact rfl); k_whole))
local macro_rules | `(tactic| walk_at "mine use") => `(tactic| (
  (case k1 => k_asm); (case k2 => k_asm); (case k3 => k_asm); (case k4 => k_asm); (case k5 => k_asm); (case kK => first | exact rfl | assumption); (case kd => ktr_room); (case ku => ktr_units)))
local macro_rules | `(tactic| walk_at "mine same1") => `(tactic| ((repeat (refine List.forall_mem_cons.mpr ⟨rfl, ?_⟩)); exact List.forall_mem_nil _))
local macro_rules | `(tactic| walk_at "mine same2") => `(tactic| (intro y hy; (simp only [List.mem_cons, List.not_mem_nil, or_false, not_or] at hy); simp [hy]))
local macro_rules | `(tactic| walk_at "mine enterA") => `(tactic| (
  refine wpAny_call ?_
  k_dflt (refine' code_pure ?k1 ?k2 ?k3 ?k5 ?kA ?kF ?kK ?k6 ?k7 ?k8 ?k9 ?kB ?_ ?c2 ?c3 ?c4 ?c5; walk_at "mine ent")))
/-! part BA -/
/-! bytearray: made empty, one byte appended, bytes appended at the end, read as bytes -/
abbrev baObj (b : Array UInt8) : Obj := { cls := .type "bytearray", data := .bytearray b }
theorem ba_slot_append : Slot "bytearray" "append" "bytearray.append" :=
  .of (owner := "bytearray") (n := "append") (by rw [typeLookup_type, builtinLookup_eq_fast]; kernel_rfl) (by decide +kernel) (by decide +kernel) (by decide +kernel)
    (by first | exact .inl (by decide +kernel) | exact .inr (by decide +kernel)) (by rw [isSubtype_type]; kernel_rfl)
theorem ba_entry_append : entryFor table "bytearray.append" = some Builtin.«bytearray.append» := by first | exact entryFor_of_fast (by kernel_rfl) | exact entryFor_of_tree (by kernel_rfl)
theorem ba_args_append (a b : Value) : argsOk "bytearray.append" ⟨[a, b], []⟩ := by unfold argsOk; kernel_rfl
theorem ba_slot_extend : Slot "bytearray" "extend" "bytearray.extend" :=
  .of (owner := "bytearray") (n := "extend") (by rw [typeLookup_type, builtinLookup_eq_fast]; kernel_rfl) (by decide +kernel) (by decide +kernel) (by decide +kernel)
    (by first | exact .inl (by decide +kernel) | exact .inr (by decide +kernel)) (by rw [isSubtype_type]; kernel_rfl)
theorem ba_entry_extend : entryFor table "bytearray.extend" = some Builtin.«bytearray.extend» := by first | exact entryFor_of_fast (by kernel_rfl) | exact entryFor_of_tree (by kernel_rfl)
theorem ba_args_extend (a b : Value) : argsOk "bytearray.extend" ⟨[a, b], []⟩ := by unfold argsOk; kernel_rfl
theorem ba_hold_append : holdIds.contains "bytearray.append" = false := by decide +kernel
theorem ba_hold_extend : holdIds.contains "bytearray.extend" = false := by decide +kernel
theorem ba_bytes_buffer : typeLookup (.type "bytes") "__buffer__" = pure (some (.builtin "bytes.__buffer__")) := by rw [typeLookup_type, builtinLookup_eq_fast]; kernel_rfl
theorem ba_bytes_release : typeLookup (.type "bytes") "__release_buffer__" = pure none := by rw [typeLookup_type, builtinLookup_eq_fast]; kernel_rfl
theorem ba_ba_buffer : typeLookup (.type "bytearray") "__buffer__" = pure (some (.builtin "bytearray.__buffer__")) := by rw [typeLookup_type, builtinLookup_eq_fast]; kernel_rfl
theorem ba_ba_release : typeLookup (.type "bytearray") "__release_buffer__" = pure (some (.builtin "bytearray.__release_buffer__")) := by rw [typeLookup_type, builtinLookup_eq_fast]; kernel_rfl
theorem ba_sub_bytes : isSubtype (.type "bytes") (.type "bytes") = pure true := by rw [isSubtype_type]; kernel_rfl
theorem ba_sub : isSubtype (.type "bytearray") (.type "bytearray") = pure true := by rw [isSubtype_type]; kernel_rfl
section
variable {M : Model} {A : Around} {s : Shared}
theorem pExported {self : Value} {Q : Bool → Shared → Prop} (h : Q false s) : wpP M A (Builtin.Bytes.exported self) Q s := fun Γ p h1 h2 h3 => by
  unfold Builtin.Bytes.exported
  rw [Sem.wp_bind']
  show Sem.wp M Γ (Sem.stack _) _ _ p s
  rw [Sem.wp_stack]
  show Q (((Γ.code, p) :: Γ.below).any _) s
  rw [List.any_eq_false.mpr]
  · exact h
  · intro x hx
    have hc : holdsMem x.1 = false := cleanL_cons h2 h3 x hx
    obtain ⟨c, p'⟩ := x
    simp only at hc
    split
    · rename_i e; cases e; exact absurd (show holdIds.contains "bytearray.__contains__" = false from hc) (by decide +kernel)
    · rename_i e; cases e; exact absurd (show holdIds.contains "bytearray.__mod__" = false from hc) (by decide +kernel)
    · rename_i e; cases e; exact absurd (show holdIds.contains "bytearray.__rmod__" = false from hc) (by decide +kernel)
    · rename_i e; cases e; exact absurd (show holdIds.contains "_struct.pack_into.held" = false from hc) (by decide +kernel)
    · rename_i e; cases e; exact absurd (show holdIds.contains "bytearray.find.held" = false from hc) (by decide +kernel)
    · rename_i e; cases e
      unfold holdsMem holdIds at hc
      intro hh
      have h4 := (Bool.and_eq_true_iff.mp hh).2
      simp only [List.contains_eq_mem, List.mem_append, decide_eq_false_iff_not, not_or, decide_eq_true_eq] at hc h4
      exact hc.2 h4
    · exact Bool.false_ne_true
theorem pExportsOf {a : Addr} {b : Array UInt8} {Q : Nat → Shared → Prop} (ho : s.heap.get? a = some (baObj b)) (h : Q 0 s) : wpP M A (Builtin.Bytes.exportsOf (.ref a)) Q s := by
  unfold Builtin.Bytes.exportsOf
  exact wpP_bindA (wpAny_load ho (wpP_pure h))
theorem pHeldOr {a : Addr} {b : Array UInt8} {Q : Bool → Shared → Prop} (ho : s.heap.get? a = some (baObj b)) (h : Q false s) :
    wpP M A (Builtin.Bytes.exported (.ref a) <||> (do return (← Builtin.Bytes.exportsOf (.ref a)) > 0)) Q s := by
  unfold orM
  refine wpP_bind (pExported ?_)
  show wpP M A (Builtin.Bytes.exportsOf (.ref a) >>= fun n => pure (decide (n > 0))) Q s
  exact wpP_bind (pExportsOf ho (wpP_pure h))
theorem pCheckResize {a : Addr} {b : Array UInt8} {Q : Unit → Shared → Prop} (ho : s.heap.get? a = some (baObj b)) (h : Q () s) : wpP M A (Builtin.Bytes.checkResize (.ref a)) Q s := by
  unfold Builtin.Bytes.checkResize
  exact wpP_bind (pHeldOr ho (wpP_pure h))
theorem ba_write {E : Value → Shared → Prop} {a : Addr} {b : Array UInt8} {f : Array UInt8 → Array UInt8} {Q : Unit → Shared → Prop} (ho : s.heap.get? a = some (baObj b)) (hz : (f b).size ≤ sizeLine)
    (h : ∀ h', h' = s.heap.update a (Obj.mapBytearray f) → h'.get? a = some (baObj (f b)) → Q () { s with heap := h' }) : wpAny M A (Builtin.Bytes.write (.ref a) f) Q E s := by
  show wpAny _ _ (updateBytearray a f) _ _ _
  unfold updateBytearray
  refine wpAny_bind (wpAny_load ho ?_)
  show wpAny _ _ (update a (Obj.mapBytearray f) >>= fun _ => lookBehind a) _ _ _
  refine wpAny_bind (wpAny_update ho ?_)
  have h2 : (s.heap.update a (Obj.mapBytearray f)).get? a = some (baObj (f b)) := Heap.get?_update_self (Obj.mapBytearray f) ho rfl
  refine wpAny_lookBehind h2 ?_ (h _ rfl h2)
  show (if (f b).size > sizeLine then some "bytearray:memory" else none) = none
  rw [if_neg (by omega)]
theorem ba_typeIs {a : Addr} {b : Array UInt8} (ho : s.heap.get? a = some (baObj b)) : s.TypeIs (.ref a) "bytearray" := ⟨_, ho, rfl⟩
theorem ba_byteValue {E : Value → Shared → Prop} {n : Int} {t : Tok} {Q : UInt8 → Shared → Prop} (h0 : 0 ≤ n) (h1 : n < 256) (h : Q n.toNat.toUInt8 s) : wpAny M A (Builtin.Bytes.byteValue (.int n t)) Q E s := by
  unfold Builtin.Bytes.byteValue
  refine wpAny_bind (wpAny_of_eq (rfl : asIndex (.int n t) = pure n) ?_)
  refine bm_if_false (by simp only [Bool.or_eq_false_iff, decide_eq_false_iff_not]; omega) ?_
  exact wpAny_pure h
end
section
variable {prog : Program} {w : World} {A : Around} {s : Shared}
theorem pAppend {a : Addr} {b : Array UInt8} {n : Int} {t : Tok} {Q : Value → Shared → Prop} (ho : s.heap.get? a = some (baObj b)) (h0 : 0 ≤ n) (h1 : n < 256) (hz : b.size < sizeLine)
    (h : ∀ h', h' = s.heap.update a (Obj.mapBytearray (·.push n.toNat.toUInt8)) → h'.get? a = some (baObj (b.push n.toNat.toUInt8)) → Q .none { s with heap := h' }) :
    wpP (model prog w) A (call (.builtin "bytearray.append") [.ref a, .int n t]) Q s := by
  refine wpP_call (codeP_call_builtin ba_hold_append ba_slot_append.plain ba_entry_append (ba_slot_append.check _ _ _ _ _ _ _ _ (ba_typeIs ho) (ba_args_append _ _) ?_))
  unfold Builtin.«bytearray.append»
  refine wpP_bindA (wpAny_of_eq (a := (Value.ref a, Value.int n t)) rfl ?_)
  (try dsimp only)
  refine wpP_bindA (ba_byteValue h0 h1 ?_)
  refine wpP_bind (pCheckResize ho ?_)
  refine wpP_bindA (ba_write (f := (·.push n.toNat.toUInt8)) ho (by simp only [Array.size_push]; omega) fun h' e1 e2 => ?_)
  exact wpP_pure ⟨_, rfl, h h' e1 e2⟩
theorem ba_slotOwn {E : Value → Shared → Prop} {v : Value} {T name id : String} {Q : Bool → Shared → Prop} (hT : s.TypeIs v T) (hl : typeLookup (.type T) (Str.ofString name) = pure (some (.builtin id))) (he : id.endsWith ("." ++ name) = true)
    (hs : isSubtype (.type T) (.type (id.dropRight (name.length + 1))) = pure true) (h : Q true s) : wpAny (model prog w) A (Builtin.Bytes.slotIsOwn v name) Q E s := by
  unfold Builtin.Bytes.slotIsOwn
  refine wpAny_bind (wpAny_specialOf hT hl ?_)
  (try dsimp only)
  rw [he]
  exact wpAny_isInstance hT hs h
theorem ba_slotNone {E : Value → Shared → Prop} {v : Value} {T name : String} {Q : Bool → Shared → Prop} (hT : s.TypeIs v T) (hl : typeLookup (.type T) (Str.ofString name) = pure none)
    (h : Q true s) : wpAny (model prog w) A (Builtin.Bytes.slotIsOwn v name) Q E s := by
  unfold Builtin.Bytes.slotIsOwn
  exact wpAny_bind (wpAny_specialOf hT hl (wpAny_pure h))
theorem ba_buffer_bytes {E : Value → Shared → Prop} {id : String} {b : Array UInt8} {t : Tok} {full : Bool} {Q : Option (Array UInt8) → Shared → Prop} (h : Q (some b) s) :
    wpAny (model prog w) A (Builtin.Bytes.buffer? id (.bytes b t) full) Q E s := by
  have hT := PySem.W.typeIs_bytes s b t
  unfold Builtin.Bytes.buffer?
  refine wpAny_bind (wpAny_specialOf hT ba_bytes_buffer ?_)
  (try dsimp only)
  refine wpAny_bind (ba_slotOwn hT ba_bytes_buffer (by decide +kernel) (by rw [isSubtype_type]; kernel_rfl) ?_)
  (try dsimp only)
  refine wpAny_bind (wpAny_specialOf hT ba_bytes_buffer ?_)
  (try dsimp only)
  unfold Builtin.Bytes.ownRelease
  refine wpAny_bind (wpAny_bind (ba_slotNone hT ba_bytes_release (wpAny_pure ?_)))
  (try dsimp only)
  exact wpAny_bind (wpAny_bind (wpAny_pure (wpAny_pure (wpAny_pure h))))
theorem ba_buffer_ba {E : Value → Shared → Prop} {id : String} {b : Array UInt8} {a : Addr} {full : Bool} {Q : Option (Array UInt8) → Shared → Prop} (ho : s.heap.get? a = some (baObj b)) (h : Q (some b) s) :
    wpAny (model prog w) A (Builtin.Bytes.buffer? id (.ref a) full) Q E s := by
  have hT := ba_typeIs ho
  unfold Builtin.Bytes.buffer?
  refine wpAny_bind (wpAny_specialOf hT ba_ba_buffer ?_)
  (try dsimp only)
  refine wpAny_bind (ba_slotOwn hT ba_ba_buffer (by decide +kernel) (by rw [isSubtype_type]; kernel_rfl) ?_)
  (try dsimp only)
  refine wpAny_bind (wpAny_specialOf hT ba_ba_buffer ?_)
  (try dsimp only)
  unfold Builtin.Bytes.ownRelease
  refine wpAny_bind (wpAny_bind (ba_slotOwn hT ba_ba_release (by decide +kernel) (by rw [isSubtype_type]; kernel_rfl) (wpAny_pure ?_)))
  (try dsimp only)
  unfold Builtin.Bytes.payload Builtin.Bytes.payload?
  exact wpAny_bind (wpAny_bind (wpAny_bind (wpAny_load ho (wpAny_pure (wpAny_pure (wpAny_pure h))))))
end

/-! part BA2 -/
theorem ba_no_bytes : typeLookup (.type "bytearray") "__bytes__" = pure none := by rw [typeLookup_type, builtinLookup_eq_fast]; kernel_rfl
theorem ba_no_index : typeLookup (.type "bytearray") "__index__" = pure none := by rw [typeLookup_type, builtinLookup_eq_fast]; kernel_rfl
theorem ba_mro : mroOf (.type "bytearray") = pure [.type "bytearray", .type "object"] := by rw [mroOf_type]; kernel_rfl
theorem ba_lookup_new : typeLookup (.type "bytearray") "__new__" = pure (some (.builtin "bytearray.__new__")) := by rw [typeLookup_type, builtinLookup_eq_fast]; kernel_rfl
theorem ba_slot_init : Slot "bytearray" "__init__" "bytearray.__init__" :=
  .of (owner := "bytearray") (n := "__init__") (by rw [typeLookup_type, builtinLookup_eq_fast]; kernel_rfl) (by decide +kernel) (by decide +kernel) (by decide +kernel)
    (by first | exact .inl (by decide +kernel) | exact .inr (by decide +kernel)) (by rw [isSubtype_type]; kernel_rfl)
theorem ba_called : TypeCalled "bytearray" "bytearray.__new__" "bytearray.__init__" :=
  ⟨by decide +kernel, by decide +kernel, ⟨_, _, ba_mro⟩, madeBy_type ba_mro ba_lookup_new (by decide +kernel), by decide +kernel, ba_sub, ba_slot_init⟩
theorem ba_typeCall : checkTypeCall "bytearray" ⟨[], []⟩ = pure () := by kernel_rfl
theorem ba_newCall : checkBuiltinCall "bytearray.__new__" ⟨[.type "bytearray"], []⟩ = pure () := by kernel_rfl
theorem ba_entry_new : entryFor table "bytearray.__new__" = some Builtin.«list.__new__» := entryFor_alias (id' := "list.__new__") (by kernel_rfl) (by decide +kernel) (by decide +kernel) (by kernel_rfl)
theorem ba_plain_new : plainId "bytearray.__new__" = true := by decide +kernel
theorem ba_entry_init : entryFor table "bytearray.__init__" = some Builtin.«bytearray.__init__» := by first | exact entryFor_of_fast (by kernel_rfl) | exact entryFor_of_tree (by kernel_rfl)
theorem ba_args_init (a : Value) : argsOk "bytearray.__init__" ⟨[a], []⟩ := by unfold argsOk; kernel_rfl
theorem ba_hold_init : holdIds.contains "bytearray.__init__" = false := by decide +kernel
theorem ba_hold_type : holdIds.contains "type.__call__" = false := by decide +kernel
set_option maxRecDepth 1000000 in
set_option maxHeartbeats 8000000 in
theorem ba_owner : ("bytearray.__new__".splitOn ".__new__").headD "" = "bytearray" := by simp +decide [String.splitOn, String.splitOnAux]
section
variable {prog : Program} {w : World} {A : Around} {s : Shared}
theorem pExtend {a : Addr} {b c : Array UInt8} {t : Tok} {Q : Value → Shared → Prop} (ho : s.heap.get? a = some (baObj b)) (hz : (b ++ c).size ≤ sizeLine)
    (h : ∀ h', h' = s.heap.update a (Obj.mapBytearray (· ++ c)) → h'.get? a = some (baObj (b ++ c)) → Q .none { s with heap := h' }) :
    wpP (model prog w) A (call (.builtin "bytearray.extend") [.ref a, .bytes c t]) Q s := by
  refine wpP_call (codeP_call_builtin ba_hold_extend ba_slot_extend.plain ba_entry_extend (ba_slot_extend.check _ _ _ _ _ _ _ _ (ba_typeIs ho) (ba_args_extend _ _) ?_))
  have hT := PySem.W.typeIs_bytes s c t
  unfold Builtin.«bytearray.extend»
  refine wpP_bindA (wpAny_of_eq (a := (Value.ref a, Value.bytes c t)) rfl ?_)
  (try dsimp only)
  refine wpP_bindA (wpAny_specialOf hT ba_bytes_buffer ?_)
  show wpP _ _ (rule "bytearray.extend.bytes-like" >>= fun _ => _) _ _
  refine wpP_bindA (wpAny_rule ?_)
  refine wpP_bindA ?_
  unfold Builtin.Bytes.payload Builtin.Bytes.payload?
  refine wpAny_bind (wpAny_bind (wpAny_load ho (wpAny_pure (wpAny_pure ?_))))
  refine wpP_bindA ?_
  unfold Builtin.Bytes.takeBufferQuiet?
  refine wpAny_bind (wpAny_attempt ?_)
  unfold Builtin.Bytes.takeBuffer?
  refine wpAny_bind (wpAny_specialOf hT ba_bytes_buffer ?_)
  (try dsimp only)
  refine wpAny_bind (ba_slotOwn hT ba_bytes_buffer (by decide +kernel) (by rw [isSubtype_type]; kernel_rfl) ?_)
  (try dsimp only)
  refine wpAny_bind (wpAny_specialOf hT ba_bytes_buffer ?_)
  (try dsimp only)
  refine wpAny_bind (ba_buffer_bytes (wpAny_pure (wpAny_pure ?_)))
  have fin : wpP (model prog w) A.in1 (Builtin.Bytes.write (.ref a) (· ++ c) >>= fun _ => ret .none) (fun fin s' => match fin with | .done f => ∃ v, f = .ret v ∧ Q v s' | .again c' => c'.quiet = true ∧ codeP (model prog w) A c' (fun f s' => ∃ v, f = .ret v ∧ Q v s') s') s :=
    wpP_bindA (ba_write (f := (· ++ c)) ho hz fun h' e1 e2 => wpP_pure ⟨_, rfl, h h' e1 e2⟩)
  show wpP _ _ (if (!c.isEmpty) = true then (Builtin.Bytes.checkResize (.ref a) >>= fun _ => (Builtin.Bytes.write (.ref a) (· ++ c) >>= fun _ => ret .none)) else (Builtin.Bytes.write (.ref a) (· ++ c) >>= fun _ => ret .none)) _ _
  split
  · exact wpP_bind (pCheckResize ho fin)
  · exact fin
/-- bytes(b), b a bytearray -/
theorem call_bytes_ba {E : Value → Shared → Prop} {a : Addr} {b : Array UInt8} {Q : Value → Shared → Prop} (ho : s.heap.get? a = some (baObj b)) (hz : b.size ≤ sizeLine) (h : Q (.bytes b s.toks) { s with toks := s.toks + 1 }) :
    wpAny (model prog w) A (call (.type "bytes") [.ref a]) Q E s := by
  have hT := ba_typeIs ho
  refine callType_codes (Q₁ := fun obj s₁ => s₁.TypeIs obj "bytes" ∧ Q obj s₁) F.bm_called (F.bm_typeCall _) F.entry_object_init ?_ fun obj s₁ h₁ => ?_
  · refine codeAny_of_tree ?_
    show wpAny _ A.in1.in1 (do checkBuiltinCall "bytes.__new__" ⟨[.type "bytes", .ref a], []⟩; again (.builtin "bytes.__new__" ⟨[.type "bytes", .ref a], []⟩)) _ _ s
    refine wpAny_bind (wpAny_of_eq (F.bm_newCall _) (wpAny_pure ⟨plainId_quiet F.bm_plain _, codeAny_builtin F.bm_entry ?_⟩))
    rw [Around.under_plainId F.bm_plain _]
    unfold Builtin.«bytes.__new__»
    refine wpAny_bind (wpAny_of_eq (a := true) rfl ?_)
    refine bm_if_false rfl ?_
    refine wpAny_bind (wpAny_of_eq F.bm_sub ?_)
    refine bm_if_false rfl ?_
    refine wpAny_bind (wpAny_of_eq (F.bm_bind _) ?_)
    refine wpAny_bind (wpAny_of_eq (a := ()) rfl ?_)
    refine wpAny_bind (wpAny_of_eq (a := ()) rfl ?_)
    refine bm_if_false rfl ?_
    refine wpAny_bind (wpAny_specialOf hT ba_no_bytes ?_)
    refine wpAny_bind (wpAny_bind ?_)
    show wpAny _ _ (load a >>= _) _ _ _
    refine wpAny_bind (wpAny_load ho ?_)
    refine wpAny_pure (wpAny_pure ?_)
    refine bm_if_false rfl ?_
    refine wpAny_bind (wpAny_specialOf hT ba_no_index ?_)
    refine bm_if_true rfl ?_
    first
      | show wpAny _ _ (Builtin.Bytes.buffer? "bytes.__new__" (.ref a) true >>= _) _ _ _
      | (refine wpAny_bind ?_; show wpAny _ _ (Builtin.Bytes.buffer? "bytes.__new__" (.ref a) true >>= _) _ _ _)
    refine wpAny_bind (ba_buffer_ba ho ?_)
    refine wpAny_bind (wpAny_rule ?_)
    refine wpAny_bind (wpAny_mkBytes ?_ hz)
    first
      | exact wpAny_bind (wpAny_pure (wpAny_pure ⟨PySem.W.typeIs_bytes _ _ _, h⟩))
      | exact wpAny_bind (wpAny_bind (wpAny_pure (wpAny_pure (wpAny_pure ⟨PySem.W.typeIs_bytes _ _ _, h⟩))))
      | exact wpAny_pure ⟨PySem.W.typeIs_bytes _ _ _, h⟩
      | exact wpAny_pure (wpAny_pure ⟨PySem.W.typeIs_bytes _ _ _, h⟩)
  · exact ⟨h₁.1, F.args_object_init_2 obj _, object_init_meets F.bm_called.init.lookup F.bm_called.made (by decide) prog w A.in1 _ s₁ ⟨h₁.1, rfl, h₁.2⟩⟩
end

/-! part BA3 -/
section
variable {prog : Program} {w : World} {A : Around} {s : Shared}
theorem pIf_false {α : Type} {M : Model} {c : Bool} {a b : Sem α} {Q : α → Shared → Prop} (hc : c = false) (h : wpP M A b Q s) : wpP M A (if c = true then a else b) Q s := by
  subst hc
  exact h
theorem pIf_true {α : Type} {M : Model} {c : Bool} {a b : Sem α} {Q : α → Shared → Prop} (hc : c = true) (h : wpP M A a Q s) : wpP M A (if c = true then a else b) Q s := by
  subst hc
  exact h
theorem ba_new {E : Value → Shared → Prop} {Q₁ : Value → Shared → Prop} (h : Q₁ (.ref s.heap.objs.size) { s with heap := s.heap.push (baObj #[]) }) :
    wpAny (model prog w) A (call (.builtin "bytearray.__new__") [.type "bytearray"]) Q₁ E s := by
  refine wpAny_call (codeAny_of_tree ?_)
  show wpAny _ A.in1 (do checkBuiltinCall "bytearray.__new__" ⟨[.type "bytearray"], []⟩; again (.builtin "bytearray.__new__" ⟨[.type "bytearray"], []⟩)) _ _ s
  refine wpAny_bind (wpAny_of_eq ba_newCall (wpAny_pure ⟨plainId_quiet ba_plain_new _, codeAny_builtin_stack ba_entry_new rfl fun p st => ?_⟩))
  rw [Around.under_plainId ba_plain_new _]
  have hsub := ba_sub
  have hown := ba_owner
  obtain ⟨hp, g, d, tk, os⟩ := s
  simp only [hown]
  wp_walk
  exact h
theorem ba_ownRelease {E : Value → Shared → Prop} {a : Addr} {b : Array UInt8} {Q : Bool → Shared → Prop} (ho : s.heap.get? a = some (baObj b)) (h : Q false s) : wpAny (model prog w) A (Builtin.Bytes.ownRelease (.ref a)) Q E s := by
  unfold Builtin.Bytes.ownRelease
  exact wpAny_bind (ba_slotOwn (ba_typeIs ho) ba_ba_release (by decide +kernel) (by rw [isSubtype_type]; kernel_rfl) (wpAny_pure h))
theorem ba_bind0 : Builtin.Bytes.bindOptional "bytearray.__init__" "bytearray" ["source", "encoding", "errors"] [] [] = pure [none, none, none] := by kernel_rfl
theorem pInit {a : Addr} {Q : Value → Shared → Prop} (ho : s.heap.get? a = some (baObj #[]))
    (h : ∀ h', h' = s.heap.update a (Obj.mapBytearray (fun _ => #[])) → h'.get? a = some (baObj #[]) → Q .none { s with heap := h' }) :
    wpP (model prog w) A (call (.builtin "bytearray.__init__") [.ref a]) Q s := by
  refine wpP_call (codeP_call_builtin ba_hold_init ba_slot_init.plain ba_entry_init (ba_slot_init.check _ _ _ _ _ _ _ _ (ba_typeIs ho) (ba_args_init _) ?_))
  unfold Builtin.«bytearray.__init__»
  (try dsimp only)
  refine wpP_bindA (ba_ownRelease ho ?_)
  refine pIf_false rfl ?_
  refine wpP_bindA (wpAny_of_eq ba_bind0 ?_)
  (try dsimp only)
  refine wpP_bindA (wpAny_of_eq (a := ()) rfl ?_)
  refine wpP_bindA (wpAny_of_eq (a := ()) rfl ?_)
  refine wpP_bind (pHeldOr ho ?_)
  refine pIf_false rfl ?_
  refine wpP_bindA (ba_write (f := fun _ => #[]) ho (Nat.zero_le _) fun h' e1 e2 => ?_)
  exact wpP_pure ⟨_, rfl, h h' e1 e2⟩
theorem pBytearray {Q : Value → Shared → Prop} (h : ∀ h', Kept s.heap h' → h'.get? s.heap.objs.size = some (baObj #[]) → Q (.ref s.heap.objs.size) { s with heap := h' }) :
    wpP (model prog w) A (call (.type "bytearray") []) Q s := by
  refine wpP_call (codeP_of_tree rfl ?_)
  show wpP _ _ (callAny (.type "bytearray") _) _ _
  refine wpP_pure ⟨Code.quiet_builtin _ (by decide +kernel), codeP_builtin ba_hold_type F.entry_type_call ?_⟩
  rw [Around.under_plain (weight_type_call_type "bytearray" [] []) rfl]
  unfold Builtin.«type.__call__»
  (try dsimp only)
  refine pIf_false ba_called.notType ?_
  refine pIf_false ba_called.canCreate ?_
  refine wpP_bindA (wpAny_of_eq ba_typeCall ?_)
  refine wpP_bindA (wpAny_of_eq ba_mro ?_)
  refine pIf_false rfl ?_
  refine wpP_bindA (wpAny_of_eq ba_called.made ?_)
  (try dsimp only)
  refine wpP_bindA (wpAny_pure ?_)
  refine wpP_bindA (wpAny_holding (ba_new ?_))
  have hS : (s.heap.push (baObj #[])).get? s.heap.objs.size = some (baObj #[]) := Heap.get?_push_size _ rfl
  have hT : Shared.TypeIs { s with heap := s.heap.push (baObj #[]) } (.ref s.heap.objs.size) "bytearray" := ⟨_, hS, rfl⟩
  refine wpP_bindA (wpAny_isInstance hT ba_sub ?_)
  refine pIf_false rfl ?_
  refine wpP_bind (wpP_holding ?_)
  simp only [callSpecial?]
  refine wpP_bindA (wpAny_specialOf hT ba_slot_init.lookup ?_)
  simp only [ba_slot_init.bind]
  refine wpP_holding (wpP_bindA (wpAny_pure (wpP_bind (pInit (s := { s with heap := s.heap.push (baObj #[]) }) hS fun h' e1 e2 => ?_))))
  refine wpP_pure ?_
  refine wpP_pure ⟨_, rfl, h h' (fun b o e => ?_) e2⟩
  rw [e1]
  exact (Heap.get?_update_other _ _ (Nat.ne_of_gt (Heap.lt_size e))).trans (Heap.get?_push_of_some _ e)
theorem pAppendB {a : Addr} {b : Array UInt8} {c : UInt8} {t : Tok} {Q : Value → Shared → Prop} (ho : s.heap.get? a = some (baObj b)) (hz : b.size < sizeLine)
    (h : ∀ h', h' = s.heap.update a (Obj.mapBytearray (·.push c)) → h'.get? a = some (baObj (b.push c)) → Q .none { s with heap := h' }) :
    wpP (model prog w) A (call (.builtin "bytearray.append") [.ref a, .int (c.toNat : Int) t]) Q s := by
  have e : ((c.toNat : Int)).toNat.toUInt8 = c := by simp
  refine pAppend ho (by omega) (by have := UInt8.toNat_lt c; omega) hz ?_
  rw [e]
  exact h
end

/-! part PL2 -/
theorem ba_plainAttrs : PlainAttrs "bytearray" :=
  ⟨⟨"bytearray.__getattribute__", by rw [typeLookup_type, builtinLookup_eq_fast]; kernel_rfl, by decide +kernel⟩, by rw [typeLookup_type, builtinLookup_eq_fast]; kernel_rfl⟩
theorem ba_ty_append : typeOf (.builtin "bytearray.append") = pure (.type "method_descriptor") := by show builtinType _ = _; rw [builtinType_eq_fast]; kernel_rfl
theorem ba_ty_extend : typeOf (.builtin "bytearray.extend") = pure (.type "method_descriptor") := by show builtinType _ = _; rw [builtinType_eq_fast]; kernel_rfl
section
variable {M : Model} {A : Around} {s : Shared} {env : Env}
theorem pTail {t : Sem Value} {Q : Value → Shared → Prop} (h : wpP M A t Q s) : wpP M A (t >>= fun r => holding [r] point >>= fun _ => pure r) Q s :=
  wpP_bind (wpP_mono h fun r s₂ hr => wpP_bind (wpP_holding (wpP_of (wpAny_point (wpP_pure hr)))))
theorem pCallWith_type {pos : Pos} {T : String} {first : List Value} {args : List (Bool × Sem Value)} {Q : Value → Shared → Prop} (hplain : args.any (·.1) = false)
    (h : wpP M A (evalArgs (.type T) true args []) (fun a s₁ => wpP M A (call (.type T) (first ++ a.pos) a.kw) Q s₁) s) : wpP M A (callWith pos (.type T) first args []) Q s := by
  unfold callWith
  refine wpP_bind (wpP_holding (wpP_mono h fun a s₁ h₁ => wpP_bindA (wpAny_standAt ?_)))
  simp only [hplain, List.any_nil, Bool.or_false]
  exact wpP_bindA (wpAny_pure (pTail h₁))
theorem pCallWith_builtin {pos : Pos} {id : String} {first : List Value} {args : List (Bool × Sem Value)} {Q : Value → Shared → Prop} (hplain : args.any (·.1) = false)
    (h : wpP M A (evalArgs (.builtin id) true args []) (fun a s₁ => wpP M A (call (.builtin id) (first ++ a.pos) a.kw) Q s₁) s) : wpP M A (callWith pos (.builtin id) first args []) Q s := by
  unfold callWith
  refine wpP_bind (wpP_holding (wpP_mono h fun a s₁ h₁ => wpP_bindA (wpAny_standAt ?_)))
  simp only [hplain, List.any_nil, Bool.or_false]
  exact wpP_bindA (wpAny_pure (pTail h₁))
/-- at a stands a def, and K -/
def FnOn (s : Shared) (a : Addr) (K : Prop) : Prop := (∃ o fd, s.heap.get? a = some o ∧ o.data = .func fd) ∧ K
theorem FnOn.mk {s : Shared} {a : Addr} {K : Prop} {Kf : Frag} {h₀ : Heap} {L : Addr} {m : Str → Option Value} {oc : Value} {od : Option Addr} {fd : FuncData} {sl : Array (Option Value)} (F : Fr h₀ L s.heap m) (X : Kf.In h₀) (e : Kf.lookup a = some ⟨oc, od, .func fd, sl⟩) (k : K) : FnOn s a K := ⟨⟨_, fd, (X.keeps F.keep) _ _ e, rfl⟩, k⟩
theorem pCallWith_fn {pos : Pos} {a : Addr} {first : List Value} {args : List (Bool × Sem Value)} {Q : Value → Shared → Prop} (hplain : args.any (·.1) = false) (hlen : args.length ≤ 30)
    (h : wpP M A (evalArgs (.ref a) true args []) (fun x s₁ => FnOn s₁ a (wpP M A (call (.ref a) (first ++ x.pos) x.kw) Q s₁)) s) :
    wpP M A (callWith pos (.ref a) first args []) Q s := by
  unfold callWith
  refine wpP_bind (wpP_holding (wpP_mono h fun x s₁ h₁ => wpP_bindA (wpAny_standAt ?_)))
  obtain ⟨⟨o, fd, ho, hd⟩, hc⟩ := h₁
  simp only [hplain, List.any_nil, Bool.or_false]
  refine wpP_bindA (m := keeperOf (.ref a)) ?_
  unfold keeperOf
  refine wpAny_bind (wpAny_load ho ?_)
  rw [hd]
  refine wpAny_pure ?_
  have hl : ¬ (args.length + 2 * ([] : List (Option Str × Sem Value)).length > 30) := by simp only [List.length_nil]; omega
  dsimp only
  rw [if_neg hl]
  exact pTail (by unfold callMarked; exact wpP_keep hc)
theorem pEvalArgsB {f : Value} {e : Expr} {rest : List Expr} {pos : Pos} {Q : Args → Shared → Prop} (h : wpP M A (spliced (backTo pos (starEach (e :: rest) env))) (fun vs s' => Q ⟨vs, []⟩ s') s)
    (he : starEach (e :: rest) env = (false, eval e env) :: starEach rest env := by rfl) : wpP M A (evalArgs f true (backTo pos (starEach (e :: rest) env)) []) Q s := by
  rw [he] at h ⊢
  exact pEvalArgs h
theorem pEvalArgs_nil {f : Value} {Q : Args → Shared → Prop} (h : Q ⟨[], []⟩ s) : wpP M A (evalArgs f true [] []) Q s := wpP_of (PySem.evalArgs_none h)
theorem pCall_Name {x : Str} {np pos : Pos} {args : List Expr} {Q : Value → Shared → Prop}
    (h : wpAny M A (eval (.Name x np) env) (fun f s₁ => wpP M A (callWith pos f [] (backTo pos (starEach args env)) []) Q s₁) (fun _ _ => False) s) : wpP M A (eval (.Call (.Name x np) args [] pos) env) Q s := by
  show wpP M A (do callWith pos (← eval (.Name x np) env) [] (backTo pos (starEach args env)) (backToKw pos (keywordEach [] env))) Q s
  exact wpP_bindA h
end
section
variable {prog : Program} {w : World} {A : Around} {s : Shared} {env : Env}
/-- what stands at v is a bytearray -/
def BaOn (s : Shared) (v : Value) (K : Addr → Array UInt8 → Prop) : Prop := ∃ a b, v = .ref a ∧ s.heap.get? a = some (baObj b) ∧ K a b
theorem BaOn.mk {s : Shared} {K : Addr → Array UInt8 → Prop} {a : Addr} {b : Array UInt8} (h : s.heap.get? a = some (baObj b)) (k : K a b) : BaOn s (.ref a) K := ⟨a, b, rfl, h, k⟩
theorem pMeth1 {o e : Expr} {name : Str} {id : String} {apos pos : Pos} {Q : Value → Shared → Prop}
    (hbase : attributeBase o name env (eval o env) = eval o env) (hline : (apos.endLine == pos.line) = true)
    (htrees : backTo pos (starEach [e] env) = [(false, eval e env)]) (slot : Slot "bytearray" name id) (hty : typeOf (.builtin id) = pure (.type "method_descriptor"))
    (h : wpAny (model prog w) A (eval o env) (fun ov s₁ => BaOn s₁ ov fun a _ => wpP (model prog w) A (eval e env) (fun y s₂ => wpP (model prog w) A (call (.builtin id) [.ref a, y]) Q s₂) s₁) (fun _ _ => False) s) :
    wpP (model prog w) A (eval (.Call (.Attribute o name apos) [e] [] pos) env) Q s := by
  rw [arm_eval_Call, hbase]
  refine wpP_bindA (wpAny_mono h (fun ov s₁ h₁ => ?_) fun _ _ e => e)
  obtain ⟨a, b, rfl, ho, hc⟩ := h₁
  refine wpP_bindA (wpAny_standAt ?_)
  have hform : methodCallForm (([e] : List Expr).length + ([] : List Keyword).length) (backTo pos (starEach [e] env)) (backToKw pos (keywordEach [] env)) = true := by rw [htrees]; rfl
  have hpos : methodCallPos true o env apos pos = pure pos := by unfold methodCallPos; simp [hline]
  unfold methodCall
  rw [hform]
  refine wpP_bindA (wpAny_holding (getMethod_builtin (ba_typeIs ho) ba_plainAttrs slot hty (fun x e => by cases e; exact ⟨_, ho, rfl⟩) ?_))
  refine wpP_bindA (wpAny_of_eq hpos ?_)
  rw [htrees]
  exact pCallWith_builtin rfl (pEvalArgs (pSpliced_cons (wpP_mono hc fun y s₂ h₂ => pSpliced_nil h₂)))
end

/-- a call's contract on the spine -/
def SCon (w : World) (f : Addr) (d u : Nat) (vs : List Value) (Pre : Heap → Prop) (Post : Heap → Heap → Value → Prop) : Prop :=
  ∀ (dp un : Nat) (gd : Option (List Code)) (cn : Str) (cs : Scope) (a : Addr) (ccd : Value) (cl : List (Str × Addr)) (outer : List Env) (A₀ : Around) (base h₀ : Heap) (L : Addr) (m : Str → Option Value)
    (mean : ExcName → Option Value) (mg mb : Str → Option Value) (s : Shared) (Q : Value → Shared → Prop),
    Below A₀ base outer h₀ → Fr h₀ L s.heap m → (hd.heap_39 w.params).In h₀ → Top hd.view_39 (looseW hd.view_39 []) mean mg mb h₀ → cs.kind = .function → Pre s.heap → dp + d < recursionLimit → un + u < cLine →
    (∀ v h' tk', Kept s.heap h' → Post s.heap h' v → Q v { s with heap := h', toks := tk' }) →
    wpP (model PySem.Challenge.rw_mq0024_01.row.prog w) (ktrTop dp un gd cn cs L a ccd cl outer) (call (.ref f) vs) Q s

section
variable {prog : Program} {w : World} {A A₀ : Around} {s : Shared} {K : Frag} {L : Addr} {h₀ base : Heap} {m mg mb : Str → Option Value} {p : Program} {loose : List Str} {mean : ExcName → Option Value}
theorem code_pureP {env : Env} {outer : List Env} {R : Flow → Shared → Prop} {name qual : Str} {params : Arguments} {body : List Stmt} {scope : Scope} {dV kV doc pm cdv ct oc : Value} {an od : Option Addr} {osl : Array (Option Value)} {f : Addr} {args : Args} {binds : List (Str × Value)}
    (B : Below A₀ base outer h₀) (F : Fr h₀ L s.heap m) (X₀ : K.In h₀) (T : Top p loose mean mg mb h₀) (hA : A.frames = some (env :: outer)) (hf : env.frame = some L) (hke : env.scope.kind = .function)
    (ho : K.lookup f = some ⟨oc, od, .func (fnOf name qual params body scope dV kV doc pm an cdv ct), osl⟩) (hcd : codeIn K cdv qual = true) (hroom : A.depth < recursionLimit)
    (hbind : BindsTo s (fnOf name qual params body scope dV kV doc pm an cdv ct) args binds) (hloc : ∀ y ∈ binds, scope.names.lookup y.1 = some .local)
    (h : ∀ L' h₁, Fr s.heap L' h₁ (fun y => binds.reverse.lookup y) → News s.heap L' h₁ [] → Below A base (env :: outer) s.heap → K.In s.heap → Top p loose mean mg mb s.heap →
      wpP (model prog w) (A.deeper (envOf qual scope L' f cdv)) (execs body (envOf qual scope L' f cdv))
        (fun fl s' => R (.ret (match fl with | .ret v => v | _ => .none)) s')
        { s with heap := h₁, toks := s.toks + binds.length })
    (hco : scope.isCoroutine = false) (hgen : scope.isGenerator = false) (hk : scope.kind = .function)
    (hcell : ∀ x ∈ scope.names, x.2 ≠ .cell) : codeP (model prog w) A (.call (.ref f) args) R s := by
  have X := X₀.keeps F.keep
  obtain ⟨FG, BG, st, lv⟩ := groundX (R := fun _ _ => True) B F (News.nil) hA hf hke
  refine codeP_call_def (fd := fnOf name qual params body scope dV kV doc pm an cdv ct) (body := body) (binds := binds) hroom (X _ _ ho) rfl (T.nolimit.keeps F.keep) (codeRec_of X hcd) rfl hbind hcell hloc (fun h₁ hns hk₁ => ?_) hco hgen hk
  exact h s.heap.objs.size h₁ ⟨hns, hk₁, Nat.le_refl _⟩ News.nil BG X (T.keeps F.keep)
end

local macro_rules | `(tactic| walk_at "mine enterP") => `(tactic| (
  refine wpP_call ?_
  k_dflt (refine' code_pureP ?k1 ?k2 ?k3 ?k5 ?kA ?kF ?kK ?k6 ?k7 ?k8 ?k9 ?kB ?_ ?c2 ?c3 ?c4 ?c5; walk_at "mine ent")))
/-! part CT -/
def Tm (j bias : Int) : Int := if 36 * (j + 1) - bias < 1 then 1 else if 36 * (j + 1) - bias > 26 then 26 else 36 * (j + 1) - bias

set_option maxHeartbeats 8000000 in
theorem T_con (w : World) (j bias : Int) (t1 t2 : Tok) :
    PCon w 21 1 8 [.int j t1, .int bias t2] (fun _ => True) (fun _ _ v => ∃ t, v = .int (Tm j bias) t) := by
  unfold PCon
  k_fill
  w_top off
  k_with_none
  intro dp un gd cn cs a ccd cl outer A₀ base h₀ L m mean mg mb s Q E B F X T hk _ hd hu hret
  walk_at "mine enterA"
  intro L' h' F' N' B' X' T'
  try dsimp only
  try k_fold
  k_steps
  all_goals (refine hret _ _ _ (Fr.keep (by assumption)) ⟨_, congrArg (fun z => Value.int z _) ?_⟩)
  all_goals (simp only [decide_eq_true_eq, decide_eq_false_iff_not] at *; unfold Tm)
  · rw [if_pos (by assumption)]
  · rw [if_neg (by assumption), if_pos (by assumption)]
  · rw [if_neg (by assumption), if_neg (by assumption)]

/-! part CAdapt -/
/-- what adapt's while and its last row make of delta and divisions -/
def adR : Nat → Int → Int → Int
  | 0, d, v => v + Int.fdiv (36 * d) (d + 38)
  | n + 1, d, v => if d > 455 then adR n (Int.fdiv d 35) (v + 36) else v + Int.fdiv (36 * d) (d + 38)
theorem fdiv35 {d : Int} (h : d > 455) : 0 ≤ Int.fdiv d 35 ∧ (Int.fdiv d 35).toNat < d.toNat := by
  rw [Int.fdiv_eq_ediv_of_nonneg _ (by omega)]
  omega
theorem adR_le {d v : Int} (h : ¬ d > 455) (n : Nat) : adR n d v = v + Int.fdiv (36 * d) (d + 38) := by
  cases n with
  | zero => rfl
  | succ n => simp only [adR, if_neg h]
theorem adR_fuel : ∀ (n k : Nat) (d v : Int), d.toNat ≤ n → d.toNat ≤ k → adR n d v = adR k d v := by
  intro n
  induction n with
  | zero => intro k d v h1 h2; rw [adR_le (by omega), adR_le (by omega)]
  | succ n ih =>
    intro k d v h1 h2
    by_cases h : d > 455
    · cases k with
      | zero => omega
      | succ k =>
        simp only [adR, if_pos h]
        have := fdiv35 h
        exact ih k _ _ (by omega) (by omega)
    · rw [adR_le h, adR_le h]
def adW (d v : Int) : Int := adR d.toNat d v
theorem adW_gt {d v : Int} (h : d > 455) : adW (Int.fdiv d 35) (v + 36) = adW d v := by
  unfold adW
  obtain ⟨n, hn⟩ : ∃ n, d.toNat = n + 1 := ⟨d.toNat - 1, by omega⟩
  rw [hn]
  simp only [adR, if_pos h]
  have := fdiv35 h
  exact adR_fuel _ _ _ _ (Nat.le_refl _) (by omega)
theorem adW_le {d v : Int} (h : ¬ d > 455) : adW d v = v + Int.fdiv (36 * d) (d + 38) := adR_le h _
/-- adapt's value -/
def Ad (delta : Int) (first : Bool) (numchars : Int) : Int :=
  let d := Int.fdiv delta (if first then 700 else 2)
  adW (d + Int.fdiv d numchars) 0

theorem ad_start {delta k numchars : Int} (h0 : 0 < k) (h1 : 0 ≤ delta) (h2 : 0 < numchars) : 0 ≤ delta.fdiv k + (delta.fdiv k).fdiv numchars := by
  have h3 : 0 ≤ delta.fdiv k := by rw [Int.fdiv_eq_ediv_of_nonneg _ (by omega)]; exact Int.ediv_nonneg h1 (by omega)
  have h4 : 0 ≤ (delta.fdiv k).fdiv numchars := by rw [Int.fdiv_eq_ediv_of_nonneg _ (by omega)]; exact Int.ediv_nonneg h3 (by omega)
  omega
theorem ad_step {d v C : Int} (h : d > 455) (hp : 0 ≤ d ∧ adW d v = C) : 0 ≤ Int.fdiv d 35 ∧ adW (Int.fdiv d 35) (v + 36) = C := ⟨(fdiv35 h).1, (adW_gt h).trans hp.2⟩

set_option maxHeartbeats 8000000 in
theorem adapt_con (w : World) (delta numchars : Int) (first : Bool) (t1 t2 : Tok) (h1 : 0 ≤ delta) (h2 : 0 < numchars) (h3 : numchars < 1000000) :
    PCon w 35 1 8 [.int delta t1, .bool first, .int numchars t2] (fun _ => True) (fun _ _ v => ∃ t, v = .int (Ad delta first numchars) t) := by
  unfold PCon
  k_fill
  w_top off
  k_with_none
  intro dp un gd cn cs a ccd cl outer A₀ base h₀ L m mean mg mb s Q E B F X T hk _ hd hu hret
  k_with_none
  k_with "state" => first | exact ⟨ad_start (by decide) h1 h2, rfl⟩ | exact ad_step (by assumption) ⟨by assumption, by assumption⟩
  k_with "measure" => exact (fdiv35 (by assumption)).2
  cases first
  · walk_at "mine enterA"
    intro L' h' F' N' B' X' T'
    try dsimp only
    try k_fold
    k_with "exec While Compare cons nil" => k_while (fun _ d v => 0 ≤ d ∧ adW d v = Ad delta false numchars) (fun _ d _ => d.toNat) "delta" "divisions"
    k_steps
    refine hret _ _ _ (Fr.keep (by assumption)) ⟨_, congrArg (fun z => Value.int z _) ?_⟩
    rw [← adW_le (by omega)]
    assumption
  · walk_at "mine enterA"
    intro L' h' F' N' B' X' T'
    try dsimp only
    try k_fold
    k_with "exec While Compare cons nil" => k_while (fun _ d v => 0 ≤ d ∧ adW d v = Ad delta true numchars) (fun _ d _ => d.toNat) "delta" "divisions"
    k_steps
    refine hret _ _ _ (Fr.keep (by assumption)) ⟨_, congrArg (fun z => Value.int z _) ?_⟩
    rw [← adW_le (by omega)]
    assumption

/-! part Use -/
section
variable {w : World} {f : Addr} {d u : Nat} {vs : List Value} {Pre : Heap → Prop} {R : Tok → Value}
  {dp un : Nat} {gd : Option (List Code)} {cn : Str} {cs : Scope} {a : Addr} {ccd : Value} {cl : List (Str × Addr)} {outer : List Env} {A₀ : Around} {base h₀ : Heap} {L : Addr} {m : Str → Option Value}
    {mean : ExcName → Option Value} {mg mb : Str → Option Value} {s : Shared} {E : Value → Shared → Prop} {Q : Value → Shared → Prop} {news : List (Addr × Obj)}
/-- a pure call that hands back a value of no object -/
theorem pcon_val (C : PCon w f d u vs Pre (fun _ _ v => ∃ t, v = R t)) (B : Below A₀ base outer h₀) (F : Fr h₀ L s.heap m) (X : (Mine.hd.heap_39 w.params).In h₀) (T : Top Mine.hd.view_39 (looseW Mine.hd.view_39 []) mean mg mb h₀) (N : News h₀ L s.heap news)
    (hk : cs.kind = .function) (hp : Pre s.heap) (hd : dp + d < recursionLimit) (hu : un + u < cLine)
    (h : ∀ t h' tk', Fr h₀ L h' m → News h₀ L h' news → Kept s.heap h' → Q (R t) { s with heap := h', toks := tk' }) :
    wpAny (model PySem.Challenge.rw_mq0024_01.row.prog w) (ktrTop dp un gd cn cs L a ccd cl outer) (call (.ref f) vs) Q E s := by
  refine C _ _ _ _ _ _ _ _ _ _ _ _ _ _ _ _ _ _ _ _ B F X T hk hp hd hu ?_
  rintro v h' tk' k ⟨t, rfl⟩
  exact h t h' tk' (Mine.Fr.kept F k) (Mine.News.kept N k) k
/-- the same on the spine -/
theorem scon_val (C : SCon w f d u vs Pre (fun _ _ v => ∃ t, v = R t)) (B : Below A₀ base outer h₀) (F : Fr h₀ L s.heap m) (X : (Mine.hd.heap_39 w.params).In h₀) (T : Top Mine.hd.view_39 (looseW Mine.hd.view_39 []) mean mg mb h₀) (N : News h₀ L s.heap news)
    (hk : cs.kind = .function) (hp : Pre s.heap) (hd : dp + d < recursionLimit) (hu : un + u < cLine)
    (h : ∀ t h' tk', Fr h₀ L h' m → News h₀ L h' news → Kept s.heap h' → Q (R t) { s with heap := h', toks := tk' }) :
    wpP (model PySem.Challenge.rw_mq0024_01.row.prog w) (ktrTop dp un gd cn cs L a ccd cl outer) (call (.ref f) vs) Q s := by
  refine C _ _ _ _ _ _ _ _ _ _ _ _ _ _ _ _ _ _ _ B F X T hk hp hd hu ?_
  rintro v h' tk' k ⟨t, rfl⟩
  exact h t h' tk' (Mine.Fr.kept F k) (Mine.News.kept N k) k
theorem Fr.congr {h : Heap} {m' : Str → Option Value} (F : Fr h₀ L h m) (e : ∀ y, m y = m' y) : Fr h₀ L h m' := (funext e : m = m') ▸ F
end
section
variable {M : Model} {A : Around} {s : Shared} {h₀ h h' : Heap} {L : Addr} {m : Str → Option Value} {news : List (Addr × Obj)}
theorem wpP_ret {t : Sem Flow} {Q : Value → Shared → Prop} (h : ∀ Qf : Flow → Shared → Prop, (∀ v s', Q v s' → Qf (.ret v) s') → wpP M A t Qf s) :
    wpP M A t (fun fl s' => ∃ v, Flow.ret (match fl with | .ret v => v | _ => .none) = Flow.ret v ∧ Q v s') s := h _ fun v _ q => ⟨v, rfl, q⟩
theorem wpP_tk {α : Type} {t : Sem α} {Q : α → Shared → Prop} {tk : Nat} (H : ∀ tk, wpP M A t Q { s with heap := h, toks := tk }) : wpP M A t Q { s with heap := h, toks := tk } := H tk
theorem News.made {ob : Obj} (F : Fr h₀ L h m) (N : News h₀ L h news) (k : Kept h h') (o : h'.get? h.objs.size = some ob) : News h₀ L h' ((h.objs.size, ob) :: news) := by
  intro p hp
  rcases List.mem_cons.mp hp with rfl | hp
  · obtain ⟨oL, _, _, hL, _⟩ := F.ns
    refine ⟨o, Nat.ne_of_gt (Heap.lt_size hL), ?_⟩
    cases hq : h₀.get? h.objs.size with
    | none => rfl
    | some o' => exact absurd (Heap.lt_size (F.keep _ _ hq)) (Nat.lt_irrefl _)
  · exact ⟨k _ _ (N p hp).1, (N p hp).2⟩
/-- an object of the ledger is changed -/
theorem one_upd {a : Addr} {o o' : Obj} {f : Obj → Obj} (F : Fr h₀ L h m) (N : News h₀ L h [(a, o)]) (e : f o = o') (hf : o'.isFreed = false) (e' : h' = h.update a f) : Fr h₀ L h' m ∧ News h₀ L h' [(a, o')] := by
  subst e'
  exact news_upd (pre := []) (post := []) F N (fun _ h => nomatch h) (fun _ h => nomatch h) e hf
end
theorem three_upd {h₀ h h' : Heap} {L : Addr} {m : Str → Option Value} {a b c : Addr} {o o' ob oc : Obj} {f : Obj → Obj} (F : Fr h₀ L h m) (N : News h₀ L h [(a, o), (b, ob), (c, oc)]) (hb : a ≠ b) (hc : a ≠ c) (e : f o = o') (hf : o'.isFreed = false) (e' : h' = h.update a f) :
    Fr h₀ L h' m ∧ News h₀ L h' [(a, o'), (b, ob), (c, oc)] := by
  subst e'
  refine news_upd (pre := []) (post := [(b, ob), (c, oc)]) F N (fun _ h => nomatch h) (fun p hp => ?_) e hf
  rcases List.mem_cons.mp hp with rfl | hp
  · exact Ne.symm hb
  · rw [List.mem_singleton.mp hp]; exact Ne.symm hc
theorem lk_cons (y a : Str) (v : Value) (l : List (Str × Value)) : List.lookup y ((a, v) :: l) = if y = a then some v else List.lookup y l := by
  rw [List.lookup_cons]
  by_cases h : y = a
  · subst h; simp
  · rw [if_neg h, beq_eq_false_iff_ne.mpr h]
theorem lk1 {a : Str} {v : Value} (y : Str) : List.lookup y [(a, v)] = if y = a then some v else none := lk_cons _ _ _ _
theorem lk2 {a b : Str} {v w : Value} (y : Str) : List.lookup y [(a, v), (b, w)] = if y = a then some v else if y = b then some w else none := by rw [lk_cons, lk1]
theorem lk3 {a b c : Str} {v w x : Value} (y : Str) : List.lookup y [(a, v), (b, w), (c, x)] = if y = a then some v else if y = b then some w else if y = c then some x else none := by rw [lk_cons, lk2]
theorem lk4 {a b c d : Str} {v w x z : Value} (y : Str) : List.lookup y [(a, v), (b, w), (c, x), (d, z)] = if y = a then some v else if y = b then some w else if y = c then some x else if y = d then some z else none := by rw [lk_cons, lk3]
theorem map_ext {m m' : Str → Option Value} (names : List Str) (h1 : ∀ x ∈ names, m x = m' x) (h2 : ∀ y, y ∉ names → m y = m' y) (y : Str) : m y = m' y := by
  by_cases h : y ∈ names
  · exact h1 y h
  · exact h2 y h
/-- a goal that the walk leaves alone -/
def Hold (P : Prop) : Prop := P
theorem Hold.mk {P : Prop} (h : P) : Hold P := h
section
variable {M : Model} {A : Around} {E : Value → Shared → Prop} {s : Shared} {env : Env}
theorem hExecs {st : Stmt} {rest : List Stmt} {Q : Flow → Shared → Prop} (h : wpAny M A (exec st env) (fun f s' => match f with | .next => Hold (wpAny M A (execs rest env) Q E s') | f => Q f s') E s) : wpAny M A (execs (st :: rest) env) Q E s :=
  wpAny_execs_cons (wpAny_mono h (fun f s' h' => by cases f <;> exact h') fun _ _ e => e)
theorem wpAny_tk {α : Type} {t : Sem α} {Q : α → Shared → Prop} {h : Heap} {tk : Nat} (H : ∀ tk, wpAny M A t Q E { s with heap := h, toks := tk }) : wpAny M A t Q E { s with heap := h, toks := tk } := H tk
theorem wpAny_ret {t : Sem Flow} {Q : Value → Shared → Prop} {E : Value → Shared → Prop} (h : ∀ Qf : Flow → Shared → Prop, (∀ v s', Q v s' → Qf (.ret v) s') → wpAny M A t Qf E s) :
    wpAny M A t (fun fl s' => Q (match fl with | .ret v => v | _ => .none) s') E s := h _ fun _ _ q => q
end
section
variable {prog : Program} {w : World} {A : Around} {E : Value → Shared → Prop} {Q : Flow → Shared → Prop} {s : Shared} {env : Env}
theorem hWhile {test : Expr} {body : List Stmt} {pos : Pos} (I : Nat → Shared → Prop)
    (turn : ∀ n s, I n s → wpAny (model prog w) A (isTrue test env (eval test env)) (fun b s₂ => if b = true then wpAny (model prog w) A (execs body env) (fun f s₃ => match f with
        | .next | .cont => Hold (∃ m, m < n ∧ I m s₃)
        | .brk => Q .next s₃
        | .ret v => Q (.ret v) s₃) E s₂ else Q .next s₂) E s)
    (n : Nat) (h : I n s) (hE : PassesOwn (model prog w) A env E) : wpAny (model prog w) A (exec (.While test body [] pos) env) Q E s := by
  refine wpAny_While (codeAny_whileLoop I (fun n s hI => ?_) n h)
  refine wpAny_mono (turn n s hI) (fun b s₂ h₂ => ?_) hE
  cases b with
  | false =>
    simp only [Bool.false_eq_true, if_false] at h₂ ⊢
    exact wpAny_execs_nil h₂
  | true =>
    simp only [if_true] at h₂ ⊢
    refine wpAny_mono h₂ (fun f s₃ h₃ => ?_) hE
    cases f <;> exact h₃
end

/-! part GGI -/
theorem Tm_lo (j bias : Int) : 1 ≤ Tm j bias := by unfold Tm; split <;> (try split) <;> omega
theorem Tm_hi (j bias : Int) : Tm j bias ≤ 26 := by unfold Tm; split <;> (try split) <;> omega
/-- the digits of a number, as numbers from 0 to 35 -/
def ggD : Nat → Int → Int → Int → List Int
  | 0, N, _, _ => [N]
  | k + 1, N, bias, j => if N < Tm j bias then [N] else (Tm j bias + Int.fmod (N - Tm j bias) (36 - Tm j bias)) :: ggD k (Int.fdiv (N - Tm j bias) (36 - Tm j bias)) bias (j + 1)
def ggS (N bias j : Int) : List Int := ggD N.toNat N bias j
def digB (n : Int) : UInt8 := [97, 98, 99, 100, 101, 102, 103, 104, 105, 106, 107, 108, 109, 110, 111, 112, 113, 114, 115, 116, 117, 118, 119, 120, 121, 122, 48, 49, 50, 51, 52, 53, 54, 55, 56, 57].getD n.toNat 0
theorem gg_less {N t : Int} (h0 : 1 ≤ t) (h1 : t ≤ 26) (h : ¬ N < t) : 0 ≤ Int.fdiv (N - t) (36 - t) ∧ Int.fdiv (N - t) (36 - t) < N := by
  rw [Int.fdiv_eq_ediv_of_nonneg _ (by omega)]
  have h3 : 0 ≤ (N - t) / (36 - t) := Int.ediv_nonneg (by omega) (by omega)
  have h4 : (N - t) / (36 - t) ≤ N - t := Int.ediv_le_self _ (by omega)
  omega
theorem ggD_lt {N bias j : Int} (h : N < Tm j bias) (k : Nat) : ggD k N bias j = [N] := by
  cases k with
  | zero => rfl
  | succ k => simp only [ggD, if_pos h]
theorem ggD_fuel : ∀ (k l : Nat) (N bias j : Int), N.toNat ≤ k → N.toNat ≤ l → ggD k N bias j = ggD l N bias j := by
  intro k
  induction k with
  | zero => intro l N bias j h1 h2; have := Tm_lo j bias; rw [ggD_lt (by omega), ggD_lt (by omega)]
  | succ k ih =>
    intro l N bias j h1 h2
    by_cases h : N < Tm j bias
    · rw [ggD_lt h, ggD_lt h]
    · have hl := Tm_lo j bias
      have := gg_less hl (Tm_hi j bias) h
      cases l with
      | zero => omega
      | succ l =>
        simp only [ggD, if_neg h]
        rw [ih l _ _ _ (by omega) (by omega)]
theorem ggS_lt {N bias j : Int} (h : N < Tm j bias) : ggS N bias j = [N] := ggD_lt h _
theorem ggS_ge {N bias j : Int} (h : ¬ N < Tm j bias) : ggS N bias j = (Tm j bias + Int.fmod (N - Tm j bias) (36 - Tm j bias)) :: ggS (Int.fdiv (N - Tm j bias) (36 - Tm j bias)) bias (j + 1) := by
  have hl := Tm_lo j bias
  have := gg_less hl (Tm_hi j bias) h
  unfold ggS
  obtain ⟨k, hk⟩ : ∃ k, N.toNat = k + 1 := ⟨N.toNat - 1, by omega⟩
  rw [hk]
  simp only [ggD, if_neg h]
  rw [ggD_fuel k _ _ _ _ (by omega) (Nat.le_refl _)]
def ggB (N bias : Int) : Array UInt8 := ((ggS N bias 0).map digB).toArray
def ggM (u : Option Value) (N j bias : Int) (tN tj tb : Tok) (r : Addr) (y : Str) : Option Value :=
  if y = Str.ofString "j" then some (.int j tj) else if y = Str.ofString "N" then some (.int N tN) else if y = Str.ofString "t" then u else if y = Str.ofString "result" then some (.ref r) else if y = Str.ofString "bias" then some (.int bias tb) else none
set_option maxHeartbeats 8000000 in
theorem ggi_con (w : World) (N bias : Int) (t1 t2 : Tok) (hN1 : 0 ≤ N) (hN2 : N < 2 ^ 20) :
    SCon w 28 2 16 [.int N t1, .int bias t2] (fun _ => True) (fun _ _ v => ∃ t, v = .bytes (ggB N bias) t) := by
  unfold SCon
  k_fill
  w_top off
  k_with_none
  k_with "call ref" => (k_here; (show wpAny _ _ (call (Value.ref 21) [Value.int _ _, Value.int _ _]) _ _ _); k_dflt (refine' pcon_val (T_con _ _ _ _ _) ?k1 ?k2 ?k3 ?k4 ?k5 ?kK trivial ?kd ?ku ?_; walk_at "mine use"; k_whole); intro _ _ _ _ _ _; (try dsimp only); (try k_sweep))
  k_with "call ref" => (k_here; (show wpAny _ _ (call (Value.ref 35) [Value.int _ _, Value.bool _, Value.int _ _]) _ _ _); k_dflt (refine' pcon_val (adapt_con _ _ _ _ _ _ ?g1 ?g2 ?g3) ?k1 ?k2 ?k3 ?k4 ?k5 ?kK trivial ?kd ?ku ?_; (case g1 => omega); (case g2 => first | omega | (simp only [List.length_append, List.length_cons, List.length_nil, List.length_take, List.length_drop]; omega)); (case g3 => first | omega | (simp only [List.length_append, List.length_cons, List.length_nil, List.length_take, List.length_drop]; omega)); walk_at "mine use"; k_whole); intro _ _ _ _ _ _; (try dsimp only); (try k_sweep))
  intro dp un gd cn cs a ccd cl outer A₀ base h₀ L m mean mg mb s Q B F X T hk _ hd hu hret
  walk_at "mine enterP"
  intro L' h' F' N' B' X' T'
  replace F' := Mine.Fr.congr (m' := fun y => if y = Str.ofString "bias" then some (.int bias t2) else if y = Str.ofString "N" then some (.int N t1) else none) F' lk2
  refine wpP_ret ?_
  intro Qf hQf
  refine wpP_tk ?_
  intro tk
  -- result = bytearray()
  refine pExecs_cons (pAssign_Name (pCall_Name ?_))
  k_steps
  refine pCallWith_type rfl (pEvalArgs_nil ?_)
  refine pBytearray fun h2 k2 o2 => ?_
  rename Fr s.heap L' _ _ => F'
  have F2 := Mine.Fr.kept F' k2
  have N2 := News.made F' N' k2 o2
  clear F' N'
  generalize h'.objs.size = r at *
  k_steps
  -- j = 0
  refine pExecs_any ?_
  k_steps
  dsimp only
  rename Fr s.heap L' _ _ => F3
  rename News s.heap L' _ _ => N3
  refine pExecs_cons (pWhile (codeP_while (fun n s' => ∃ (N' j' : Int) (acc : Array UInt8) (u : Option Value) (h : Heap) (tk : Nat) (tN tj : Tok), s' = { s with heap := h, toks := tk } ∧ Fr s.heap L' h (ggM u N' j' bias tN tj t2 r) ∧ News s.heap L' h [(r, baObj acc)] ∧
      0 ≤ N' ∧ 0 ≤ j' ∧ N' < 2 ^ 20 ∧ N'.toNat = n ∧ acc ++ ((ggS N' bias j').map digB).toArray = ggB N bias ∧ acc.size + n ≤ 2 ^ 20) ?_ N.toNat ?_))
  rotate_left
  · have F4 := Mine.Fr.congr (m' := ggM none N 0 bias t1 _ t2 r) F3 (map_ext [Str.ofString "j", Str.ofString "N", Str.ofString "t", Str.ofString "result", Str.ofString "bias"] (by walk_at "mine same1") (by unfold ggM; walk_at "mine same2"))
    exact ⟨N, 0, #[], none, _, _, t1, _, rfl, F4, N3, hN1, by omega, hN2, rfl, by simp [ggB], by simp; omega⟩
  · rintro n s' ⟨N', j', acc, u, h5, tk5, tN, tj, rfl, F5, N5, p1, p2, p3, p4, p5, p6⟩
    clear F3 N3
    have hT1 := Tm_lo j' bias
    have hT2 := Tm_hi j' bias
    have hm1 := fmod_lo (N' - Tm j' bias) (n := 36 - Tm j' bias) (by omega)
    have hm2 := fmod_hi (N' - Tm j' bias) (n := 36 - Tm j' bias) (by omega)
    refine wpP_of ?_
    k_steps
    -- t = T(j, bias)
    refine pExecs_any ?_
    k_steps
    dsimp only
    -- if N < t
    refine pExecs_cons (pIf (wpP_of ?_))
    k_steps
    · -- result.append(digits[N])
      refine pExecs_cons (pExpr (pMeth1 rfl rfl rfl ba_slot_append ba_ty_append ?_))
      k_steps
      rename News s.heap L' _ _ => N6
      refine BaOn.mk (N6 _ (.head _)).1 (wpP_of ?_)
      k_steps
      rename News s.heap L' _ _ => N6
      rename Fr s.heap L' _ _ => F6
      refine pAppendB (N6 _ (.head _)).1 (by rw [sizeLine_eq]; omega) ?_
      intro h7 e7 o7
      refine ⟨rfl, ?_⟩
      dsimp only
      obtain ⟨F7, N7⟩ := one_upd (o' := baObj (acc.push (digB N'))) F6 N6 rfl rfl e7
      clear F6 N6
      -- return bytes(result)
      refine pExecs_any ?_
      k_steps
      rename Fr s.heap L' _ _ => F7
      refine call_bytes_ba o7 (by simp only [Array.size_push]; rw [sizeLine_eq]; omega) ?_
      refine hQf _ _ (hret _ _ _ (Fr.keep F7) ⟨_, congrArg (fun z => Value.bytes z _) ?_⟩)
      rw [← p5, ggS_lt (by assumption)]
      simp [digB]
    · refine pExecs_nil ?_
      dsimp only
      -- result.append(digits[t + (N - t) % (36 - t)])
      refine pExecs_cons (pExpr (pMeth1 rfl rfl rfl ba_slot_append ba_ty_append ?_))
      k_steps
      rename News s.heap L' _ _ => N6
      refine BaOn.mk (N6 _ (.head _)).1 (wpP_of ?_)
      k_steps
      rename News s.heap L' _ _ => N6
      rename Fr s.heap L' _ _ => F6
      refine pAppendB (N6 _ (.head _)).1 (by rw [sizeLine_eq]; omega) ?_
      intro h7 e7 o7
      refine ⟨rfl, ?_⟩
      dsimp only
      obtain ⟨F7, N7⟩ := one_upd (o' := baObj (acc.push (digB (Tm j' bias + (N' - Tm j' bias).fmod (36 - Tm j' bias))))) F6 N6 rfl rfl e7
      clear F6 N6
      -- N = (N - t) // (36 - t)
      refine pExecs_any ?_
      k_steps
      dsimp only
      refine pExecs_any ?_
      k_steps
      rename Fr s.heap L' _ _ => F8
      rename News s.heap L' _ _ => N8
      have F9 := Mine.Fr.congr (m' := ggM (some (.int (Tm j' bias) _)) (Int.fdiv (N' - Tm j' bias) (36 - Tm j' bias)) (j' + 1) bias _ _ t2 r) F8 (map_ext [Str.ofString "j", Str.ofString "N", Str.ofString "t", Str.ofString "result", Str.ofString "bias"] (by walk_at "mine same1") (by unfold ggM; walk_at "mine same2"))
      have hge : ¬ N' < Tm j' bias := by assumption
      have hl := gg_less hT1 hT2 hge
      dsimp only
      refine pExecs_nil ?_
      refine ⟨_, ?_, _, _, _, _, _, _, _, _, rfl, F9, N8, hl.1, by omega, by omega, rfl, ?_, ?_⟩
      · omega
      · rw [← p5, ggS_ge hge]
        simp
      · simp only [Array.size_push]
        omega

/-! part GI0 -/
abbrev enumObj (it : Addr) (i : Int) (old : Value) : Obj := { cls := .type "enumerate", dict := none, data := .fields #[.none, .bool false, .ref it, rawInt i, .none, old], slots := #[] }
/-- an enumerate over the list l stands at its i-th item; beside it one object more -/
def EnumAt (h₀ : Heap) (L r e it l : Addr) (ob : Obj) (h : Heap) (m : Str → Option Value) (i : Nat) (old : Value) : Prop :=
  Fr h₀ L h m ∧ ∃ oi, News h₀ L h [(r, ob), (e, enumObj it i old), (it, oi)] ∧ oi.cls = .type "list_iterator" ∧ oi.data = .fields #[.ref l, .int i 0]
section
variable {prog : Program} {w : World} {A : Around} {E : Value → Shared → Prop} {s : Shared} {h₀ : Heap} {L r e it l : Addr} {ob : Obj} {m : Str → Option Value} {i : Nat} {old : Value} {items : Array Value}
theorem Fr.but {h h' : Heap} (F : Fr h₀ L h m) (S : List Addr) (hS : ∀ b ∈ S, h₀.get? b = none ∧ b ≠ L) (k : ∀ b o, b ∉ S → h.get? b = some o → h'.get? b = some o) : Fr h₀ L h' m := by
  obtain ⟨oL, a1, a2, hL, a3⟩ := F.ns
  exact ⟨⟨oL, a1, a2, k _ _ (fun q => (hS _ q).2 rfl) hL, a3⟩, fun b o q => k b o (fun z => by have := (hS _ z).1; rw [this] at q; cases q) (F.keep b o q), F.above⟩
theorem enum_end {R : Shared → Prop} {K : Value → Shared → Prop} (hh : A.handled = none) (hA : EnumAt h₀ L r e it l ob s.heap m i old) (hl : h₀.IsList l items) (hd : r ≠ it) (hx : items[i]? = none)
    (h : ∀ h', Fr h₀ L h' m → h'.get? r = some ob → R { s with heap := h' }) :
    wpAny (model prog w) A (pyNext (.ref e)) (fun r' s₁ => match r' with | none => R s₁ | some v => K v s₁) E s := by
  obtain ⟨F, oi, N, c1, c2⟩ := hA
  have n1 := N _ (.tail _ (.head _))
  have n2 := N _ (.tail _ (.tail _ (.head _)))
  have n0 := N _ (.head _)
  refine wpAny_pyNext_enum_end hh n1.1 ⟨oi, n2.1, c1, c2⟩ (hl.at fun o e => F.keep _ _ e) hx fun h' k => ?_
  refine h h' (Fr.but F [it] (fun b hb => ?_) fun b o hb q => k b o (fun z => hb (by rw [z]; exact .head _)) q) (k r ob hd n0.1)
  rw [List.mem_singleton.mp hb]
  exact ⟨n2.2.2, n2.2.1⟩
theorem enum_item {R : Shared → Prop} {Q : Shared → Prop} {name : Str} {scope : Scope} {a : Addr} {cd : Value} {xi xv : Str} {pi pv pt : Pos} {x1 : Nat} {x : Value} (hh : A.handled = none) (hA : EnumAt h₀ L r e it l ob s.heap m i old) (hl : h₀.IsList l items) (hx : items[i]? = some x)
    (hre : r ≠ e) (hri : r ≠ it) (hei : e ≠ it) (hk : scope.kind = .function) (hxi : (envOf name scope L a cd).kindOf xi = some .local) (hxv : (envOf name scope L a cd).kindOf xv = some .local)
    (h : ∀ h' tk tk', EnumAt h₀ L r e it l ob h' (fun y => if y = xv then some x else if y = xi then some (.int i tk) else m y) (i + 1) x → Q { s with heap := h', toks := tk' }) :
    wpAny (model prog w) A (pyNext (.ref e)) (fun r' s₁ => match r' with
      | none => R s₁
      | some v => wpAny (model prog w) A (letOwnedTupleGo (.Tuple [.Name xi pi, .Name xv pv] x1 pt) (.ref e) v) (fun _ s₁ => wpAny (model prog w) A (assign (.Tuple [.Name xi pi, .Name xv pv] x1 pt) (envOf name scope L a cd) v) (fun _ s₂ => Q s₂) E s₁) E s₁) E s := by
  obtain ⟨F, oi, N, c1, c2⟩ := hA
  have n1 := N _ (.tail _ (.head _))
  have n2 := N _ (.tail _ (.tail _ (.head _)))
  have n0 := N _ (.head _)
  refine wpAny_pyNext_enum_item n1.1 ⟨oi, n2.1, c1, c2⟩ (hl.at fun o e => F.keep _ _ e) hx hei fun h₁ heo hit₁ ht₁ hz₁ hk₁ => ?_
  refine wpAny_letOwnedTupleGo_enum heo fun h₂ he₂ hs₂ => ?_
  replace hs₂ : Heap.SameBut e h₁ h₂ := hs₂
  have hS : ∀ b ∈ [e, it], h₀.get? b = none ∧ b ≠ L := fun b hb => by
    rcases List.mem_cons.mp hb with rfl | hb
    · exact ⟨n1.2.2, n1.2.1⟩
    · rw [List.mem_singleton.mp hb]; exact ⟨n2.2.2, n2.2.1⟩
  have k₂ : ∀ b o, b ∉ [e, it] → s.heap.get? b = some o → h₂.get? b = some o := fun b o hb q => by
    have hbe : b ≠ e := fun z => hb (by rw [z]; exact .head _)
    have hbi : b ≠ it := fun z => hb (by rw [z]; exact .tail _ (.head _))
    exact hs₂.extBut b o hbe (hk₁ b o hbe hbi q)
  have F₂ : Fr h₀ L h₂ m := Fr.but F _ hS k₂
  have heH : e < s.heap.objs.size := Heap.lt_size n1.1
  have ht₂ : h₂.IsTuple s.heap.objs.size #[.int i s.toks, x] := ⟨_, (hs₂.2 _ (Nat.ne_of_gt heH)).trans ht₁, rfl, _, rfl⟩
  have hz₂ : h₂.objs.size = s.heap.objs.size + 1 := hs₂.1.trans hz₁
  obtain ⟨oj, hj1, hj2, hj3⟩ := hit₁.extBut hs₂.extBut (Ne.symm hei)
  have N₂ : News h₀ L h₂ [(r, ob), (e, enumObj it ((i : Int) + 1) x), (it, oj)] := by
    intro p hp
    rcases List.mem_cons.mp hp with rfl | hp
    · exact ⟨k₂ r ob (fun z => by rcases List.mem_cons.mp z with z | z; exact hre z; exact hri (List.mem_singleton.mp z)) n0.1, n0.2⟩
    · rcases List.mem_cons.mp hp with rfl | hp
      · exact ⟨he₂, n1.2⟩
      · rw [List.mem_singleton.mp hp]
        exact ⟨hj1, n2.2⟩
  refine wpAny_assign_Tuple hh ht₂ rfl rfl fun h₃ hx₃ => ?_
  replace hx₃ : Heap.ExtBut h₂.objs.size h₂ h₃ := hx₃
  have k₃ : Kept h₂ h₃ := fun b o q => hx₃ b o (Nat.ne_of_lt (Heap.lt_size q)) q
  have F₃ := Fr.kept F₂ k₃
  have N₃ := News.kept N₂ k₃
  show wpAny _ A (do holding [x] (assign (.Name xi pi) (envOf name scope L a cd) (.int i s.toks)); do holding [] (assign (.Name xv pv) (envOf name scope L a cd) x); pure ()) _ _ _
  refine wpAny_bind (wpAny_holding (wpAny_assign_Name (stN (s := ⟨h₃, _, _, _, _⟩) F₃ N₃ (fun h₄ F₄ N₄ => ?_) hk hxi)))
  refine wpAny_bind (wpAny_holding (wpAny_assign_Name (stN (s := ⟨h₄, _, _, _, _⟩) F₄ N₄ (fun h₅ F₅ N₅ => wpAny_pure ?_) hk hxv)))
  refine h h₅ s.toks _ ⟨F₅, oj, ?_, hj2, hj3⟩
  have : ((i + 1 : Nat) : Int) = (i : Int) + 1 := by push_cast; rfl
  rw [this]
  exact N₅
theorem call_enumE {Q : Value → Shared → Prop} (F : Fr h₀ L s.heap m) (N : News h₀ L s.heap [(r, ob)]) (hl : h₀.IsList l items)
    (h : ∀ e it h', EnumAt h₀ L r e it l ob h' m 0 .none → r ≠ e → r ≠ it → e ≠ it → Q (.ref e) { s with heap := h' }) : wpAny (model prog w) A (call (.type "enumerate") [.ref l]) Q E s := by
  have n0 := N _ (.head _)
  have hr := Heap.lt_size n0.1
  refine call_enumerate_list (hl.at fun o e => F.keep _ _ e) fun h' he hi hz k => ?_
  obtain ⟨oj, hj1, hj2, hj3⟩ := hi
  have hLt : L < s.heap.objs.size := F.ns.lt
  have fresh : ∀ b, s.heap.objs.size ≤ b → h₀.get? b = none := fun b hb => by
    cases q : h₀.get? b with
    | none => rfl
    | some o => exact absurd (Heap.lt_size (F.keep _ _ q)) (Nat.not_lt.mpr hb)
  refine h _ _ h' ⟨Fr.kept F k, oj, ?_, hj2, hj3⟩ (Nat.ne_of_lt (Nat.lt_succ_of_lt hr)) (Nat.ne_of_lt hr) (Nat.succ_ne_self _)
  intro p hp
  rcases List.mem_cons.mp hp with rfl | hp
  · exact ⟨k _ _ n0.1, n0.2⟩
  · rcases List.mem_cons.mp hp with rfl | hp
    · exact ⟨he, Nat.ne_of_gt (Nat.lt_succ_of_lt hLt), fresh _ (Nat.le_succ _)⟩
    · rw [List.mem_singleton.mp hp]
      exact ⟨hj1, Nat.ne_of_gt hLt, fresh _ (Nat.le_refl _)⟩
end

/-! part GI -/
theorem ggD_len : ∀ (k : Nat) (N bias j : Int), (ggD k N bias j).length ≤ k + 1 := by
  intro k
  induction k with
  | zero => intro N bias j; simp [ggD]
  | succ k ih =>
    intro N bias j
    simp only [ggD]
    split
    · simp
    · simp only [List.length_cons]; have := ih (Int.fdiv (N - Tm j bias) (36 - Tm j bias)) bias (j + 1); omega
theorem ggB_size (N bias : Int) : (ggB N bias).size ≤ N.toNat + 1 := by
  unfold ggB ggS
  simp only [List.size_toArray, List.length_map]
  exact ggD_len _ _ _ _
/-- the bytes of a row of numbers -/
def giA (baselen : Int) : Nat → Int → List Int → Array UInt8
  | _, _, [] => #[]
  | p, bias, d :: ds => ggB d bias ++ giA baselen (p + 1) (Ad d ((p : Int) == 0) (baselen + p + 1)) ds
def giM (u1 u2 u3 : Option Value) (bias baselen : Int) (tb tl : Tok) (l r : Addr) (y : Str) : Option Value :=
  if y = Str.ofString "bias" then some (.int bias tb) else if y = Str.ofString "points" then u1 else if y = Str.ofString "delta" then u2 else if y = Str.ofString "s" then u3 else if y = Str.ofString "result" then some (.ref r)
  else if y = Str.ofString "deltas" then some (.ref l) else if y = Str.ofString "baselen" then some (.int baselen tl) else none
set_option maxHeartbeats 8000000 in
theorem gi_con (w : World) (baselen : Int) (tl : Tok) (l : Addr) (vs : List Value) (ns : List Int) (hb1 : 0 ≤ baselen) (hb2 : baselen < 1000) (hi : IntsAre vs ns) (hn : ∀ n ∈ ns, 0 ≤ n ∧ n < 2 ^ 20 - 1) (hl : ns.length ≤ 8) :
    SCon w 42 4 40 [.int baselen tl, .ref l] (fun h => h.IsList l vs.toArray) (fun _ _ v => ∃ t, v = .bytes (giA baselen 0 72 ns) t) := by
  unfold SCon
  k_fill
  w_top off
  k_with_none
  k_with "call ref" => (k_here; (show wpAny _ _ (call (Value.ref 21) [Value.int _ _, Value.int _ _]) _ _ _); k_dflt (refine' pcon_val (T_con _ _ _ _ _) ?k1 ?k2 ?k3 ?k4 ?k5 ?kK trivial ?kd ?ku ?_; walk_at "mine use"; k_whole); intro _ _ _ _ _ _; (try dsimp only); (try k_sweep))
  k_with "call ref" => (k_here; (show wpAny _ _ (call (Value.ref 35) [Value.int _ _, Value.bool _, Value.int _ _]) _ _ _); k_dflt (refine' pcon_val (adapt_con _ _ _ _ _ _ ?g1 ?g2 ?g3) ?k1 ?k2 ?k3 ?k4 ?k5 ?kK trivial ?kd ?ku ?_; (case g1 => omega); (case g2 => first | omega | (simp only [List.length_append, List.length_cons, List.length_nil, List.length_take, List.length_drop]; omega)); (case g3 => first | omega | (simp only [List.length_append, List.length_cons, List.length_nil, List.length_take, List.length_drop]; omega)); walk_at "mine use"; k_whole); intro _ _ _ _ _ _; (try dsimp only); (try k_sweep))
  k_with "call type:enumerate" => (k_here; (show wpAny _ _ (call (Value.type "enumerate") [Value.ref _]) _ _ _); k_dflt (refine' call_enumE ?k1 ?k2 ?k3 ?_; (case k1 => k_asm); (case k2 => k_asm); (case k3 => k_asm); k_whole); intro _ _ _ _ _ _ _)
  intro dp un gd cn cs a ccd cl outer A₀ base h₀ L m mean mg mb s Q B F X T hk hL hd hu hret
  walk_at "mine enterP"
  intro L' h' F' N' B' X' T'
  replace F' := Mine.Fr.congr (m' := fun y => if y = Str.ofString "deltas" then some (.ref l) else if y = Str.ofString "baselen" then some (.int baselen tl) else none) F' lk2
  refine wpP_ret ?_
  intro Qf hQf
  refine wpP_tk ?_
  intro tk
  -- result = bytearray()
  refine pExecs_cons (pAssign_Name (pCall_Name ?_))
  k_steps
  refine pCallWith_type rfl (pEvalArgs_nil ?_)
  refine pBytearray fun h2 k2 o2 => ?_
  rename Fr s.heap L' _ _ => F'
  have F2 := Mine.Fr.kept F' k2
  have N2 := News.made F' N' k2 o2
  clear F' N'
  generalize h'.objs.size = r at *
  k_steps
  -- bias = 72
  refine pExecs_any ?_
  k_steps
  dsimp only
  -- for points, delta in enumerate(deltas)
  refine pExecs_cons (pFor ?_)
  k_steps
  rename EnumAt _ _ _ _ _ _ _ _ _ _ _ => hA
  rename_i e it h3 d1 d2 d3
  refine wpAny_pyIter_enum (hA.2.choose_spec.1 _ (.tail _ (.head _))).1 ?_
  -- the loop
  rename Fr s.heap L' _ _ => Fold
  rename News s.heap L' _ _ => Nold
  clear Fold Nold
  have hvs : vs.length = ns.length := hi.length
  refine codeP_for (fun n s' => ∃ (i : Nat) (bias : Int) (tb : Tok) (acc : Array UInt8) (u1 u2 u3 : Option Value) (old : Value) (h : Heap) (tk : Nat), s' = { s with heap := h, toks := tk } ∧
      EnumAt s.heap L' r e it l (baObj acc) h (giM u1 u2 u3 bias baselen tb tl l r) i old ∧ i ≤ ns.length ∧ n = ns.length + 1 - i ∧ acc ++ giA baselen i bias (ns.drop i) = giA baselen 0 72 ns ∧ acc.size ≤ i * 2 ^ 20) ?_ (ns.length + 1) ?_
  rotate_left
  · obtain ⟨F4, oi, N4, c1, c2⟩ := hA
    have F5 := Mine.Fr.congr (m' := giM none none none 72 baselen _ tl l r) F4 (map_ext [Str.ofString "bias", Str.ofString "points", Str.ofString "delta", Str.ofString "s", Str.ofString "result", Str.ofString "deltas", Str.ofString "baselen"] (by walk_at "mine same1") (by unfold giM; walk_at "mine same2"))
    exact ⟨0, 72, _, #[], none, none, none, _, _, _, rfl, ⟨F5, oi, N4, c1, c2⟩, Nat.zero_le _, rfl, by simp, by simp⟩
  · clear hA
    rintro n s' ⟨i, bias, tb, acc, u1, u2, u3, old, h5, tk5, rfl, hA, q1, q2, q3, q4⟩
    by_cases hin : i < ns.length
    · obtain ⟨t, hx⟩ := hi.get i ns[i] (by simp [hin])
      have hmem := hn ns[i] (List.getElem_mem hin)
      refine enum_item (hh := rfl) hA hL (x := .int ns[i] t) (by simpa using hx) d1 d2 d3 rfl rfl rfl ?_
      intro h6 tp tk6 hA6
      obtain ⟨F6, oi, N6, c1, c2⟩ := hA6
      clear hA
      -- s = generate_generalized_integer(delta, bias)
      refine pExecs_cons (pAssign_Name (pCall_Name ?_))
      k_steps
      refine pCallWith_fn rfl (Nat.le_of_ble_eq_true rfl) (pEvalArgsB (wpP_of ?_))
      k_steps
      refine FnOn.mk F6 X' (by k_is) ?_
      k_dflt (refine' scon_val (ggi_con _ _ _ _ _ hmem.1 (by omega)) ?k1 ?k2 ?k3 ?k4 ?k5 ?kK trivial ?kd ?ku ?_; walk_at "mine use")
      intro t9 h9 tk9 F9 N9 K9
      clear F6 N6
      k_steps
      -- result.extend(s)
      refine pExecs_cons (pExpr (pMeth1 rfl rfl rfl ba_slot_extend ba_ty_extend ?_))
      k_steps
      rename News s.heap L' _ _ => N6
      refine BaOn.mk (N6 _ (.head _)).1 (wpP_of ?_)
      k_steps
      rename News s.heap L' _ _ => N6
      rename Fr s.heap L' _ _ => F6
      have hsz : (acc ++ ggB ns[i] bias).size ≤ (i + 1) * 2 ^ 20 := by
        have := ggB_size ns[i] bias
        simp only [Array.size_append]
        omega
      refine pExtend (N6 _ (.head _)).1 (by rw [sizeLine_eq]; omega) ?_
      intro h7 e7 o7
      refine ⟨rfl, ?_⟩
      dsimp only
      obtain ⟨F7, N7⟩ := three_upd (o' := baObj (acc ++ ggB ns[i] bias)) F6 N6 d1 d2 rfl rfl e7
      clear F6 N6
      -- bias = adapt(delta, points == 0, baselen + points + 1)
      refine pExecs_any ?_
      k_steps
      rename Fr s.heap L' _ _ => F8
      rename News s.heap L' _ _ => N8
      have F9 := Mine.Fr.congr (m' := giM (some (.int i tp)) (some (.int ns[i] t)) (some (.bytes (ggB ns[i] bias) t9)) (Ad ns[i] ((i : Int) == 0) (baselen + i + 1)) baselen _ tl l r) F8 (map_ext [Str.ofString "bias", Str.ofString "points", Str.ofString "delta", Str.ofString "s", Str.ofString "result", Str.ofString "deltas", Str.ofString "baselen"] (by walk_at "mine same1") (by unfold giM; walk_at "mine same2"))
      refine pExecs_nil ?_
      refine ⟨ns.length + 1 - (i + 1), by omega, i + 1, _, _, _, _, _, _, _, _, _, rfl, ⟨F9, oi, N8, c1, c2⟩, hin, rfl, ?_, hsz⟩
      rw [← q3, List.drop_eq_getElem_cons hin, Array.append_assoc]
      rfl
    · have hie : i = ns.length := by omega
      refine enum_end (hh := rfl) hA hL d2 (by simp; omega) ?_
      intro h6 F6 o6
      -- return bytes(result)
      refine pExecs_any ?_
      have N6 : News s.heap L' h6 [] := News.nil
      k_steps
      rename Fr s.heap L' _ _ => F7
      refine call_bytes_ba o6 (by rw [sizeLine_eq]; omega) ?_
      refine hQf _ _ (hret _ _ _ (Fr.keep F7) ⟨_, congrArg (fun z => Value.bytes z _) ?_⟩)
      rw [← q3, hie, List.drop_length]
      simp [giA]

/-! part DGN -/
/-- a digit's sign behind upper() -/
def upB (d : Int) : UInt8 := [65, 66, 67, 68, 69, 70, 71, 72, 73, 74, 75, 76, 77, 78, 79, 80, 81, 82, 83, 84, 85, 86, 87, 88, 89, 90, 48, 49, 50, 51, 52, 53, 54, 55, 56, 57].getD d.toNat 0
theorem upB_at : ∀ k : Fin 36, (k.val < 26 ∧ (upB k.val).toNat = 65 + k.val) ∨ (26 ≤ k.val ∧ (upB k.val).toNat = 22 + k.val) := by decide +kernel
theorem upB_cases {d : Int} (h0 : 0 ≤ d) (h1 : d < 36) : (d < 26 ∧ ((upB d).toNat : Int) = 65 + d) ∨ (26 ≤ d ∧ ((upB d).toNat : Int) = 22 + d) := by
  have := upB_at ⟨d.toNat, by omega⟩
  simp only [Int.toNat_of_nonneg h0] at this
  omega
theorem ggS_head {N : Int} (bias j : Int) (h : 0 ≤ N) : ∃ d tl, ggS N bias j = d :: tl ∧ 0 ≤ d ∧ d < 36 ∧ ((N < Tm j bias ∧ d = N ∧ tl = []) ∨ (¬ N < Tm j bias ∧ Tm j bias ≤ d ∧ d = Tm j bias + Int.fmod (N - Tm j bias) (36 - Tm j bias) ∧ tl = ggS (Int.fdiv (N - Tm j bias) (36 - Tm j bias)) bias (j + 1))) := by
  have h1 := Tm_lo j bias
  have h2 := Tm_hi j bias
  by_cases hl : N < Tm j bias
  · exact ⟨N, [], ggS_lt hl, h, by omega, .inl ⟨hl, rfl, rfl⟩⟩
  · have m1 := fmod_lo (N - Tm j bias) (n := 36 - Tm j bias) (by omega)
    have m2 := fmod_hi (N - Tm j bias) (n := 36 - Tm j bias) (by omega)
    exact ⟨_, _, ggS_ge hl, by omega, by omega, .inr ⟨hl, by omega, rfl, rfl⟩⟩
def dgM (u1 u2 u3 : Option Value) (ext : List UInt8) (p bias res w j : Int) (t0 t1 t2 t3 t4 t5 t6 : Tok) (y : Str) : Option Value :=
  if y = Str.ofString "char" then u1 else if y = Str.ofString "digit" then u2 else if y = Str.ofString "t" then u3 else if y = Str.ofString "extpos" then some (.int p t1) else if y = Str.ofString "result" then some (.int res t4) else if y = Str.ofString "w" then some (.int w t5) else if y = Str.ofString "j" then some (.int j t6)
  else if y = Str.ofString "errors" then some (.str (Str.ofString "strict") t3) else if y = Str.ofString "bias" then some (.int bias t2) else if y = Str.ofString "extended" then some (.bytes ext.toArray t0) else none
abbrev tup2 (a b : Value) : Obj := { cls := .type "tuple", data := .seq #[a, b] }
theorem tup_eq {h : Heap} {a : Addr} {x y x' y' : Int} {t t' : Tok} (o : h.get? a = some (tup2 (.int x t) (.int y t'))) (e1 : x = x') (e2 : y = y') : h.get? a = some (tup2 (.int x' t) (.int y' t')) := by
  subst e1 e2
  exact o
set_option maxHeartbeats 8000000 in
theorem dgn_con (w : World) (ext rest : List UInt8) (p N bias : Int) (t0 t1 t2 t3 : Tok) (h1 : 0 ≤ p) (h2 : 0 ≤ N) (h3 : ext.length < 2 ^ 24) (h4 : ext.drop p.toNat = (ggS N bias 0).map upB ++ rest) :
    PCon w 49 2 16 [.bytes ext.toArray t0, .int p t1, .int bias t2, .str (Str.ofString "strict") t3] (fun _ => True)
      (fun h h' v => ∃ a t t', v = .ref a ∧ h.get? a = none ∧ h'.get? a = some (tup2 (.int (p + (ggS N bias 0).length) t) (.int N t'))) := by
  unfold PCon
  k_fill
  w_top off
  intro dp un gd cn cs a ccd cl outer A₀ base h₀ L m mean mg mb s Q E B F X T hk _ hd hu hret
  walk_at "mine enterA"
  intro L' h' F' N' B' X' T'
  replace F' := Mine.Fr.congr (m' := fun y => if y = Str.ofString "errors" then some (.str (Str.ofString "strict") t3) else if y = Str.ofString "bias" then some (.int bias t2) else if y = Str.ofString "extpos" then some (.int p t1) else if y = Str.ofString "extended" then some (.bytes ext.toArray t0) else none) F' lk4
  k_with_none
  k_with "call ref" => (k_here; (show wpAny _ _ (call (Value.ref 21) [Value.int _ _, Value.int _ _]) _ _ _); k_dflt (refine' pcon_val (T_con _ _ _ _ _) ?k1 ?k2 ?k3 ?k4 ?k5 ?kK trivial ?kd ?ku ?_; walk_at "mine use"; k_whole); intro _ _ _ _ _ _; (try dsimp only); (try k_sweep))
  k_with "call ref" => (k_here; (show wpAny _ _ (call (Value.ref 35) [Value.int _ _, Value.bool _, Value.int _ _]) _ _ _); k_dflt (refine' pcon_val (adapt_con _ _ _ _ _ _ ?g1 ?g2 ?g3) ?k1 ?k2 ?k3 ?k4 ?k5 ?kK trivial ?kd ?ku ?_; (case g1 => omega); (case g2 => first | omega | (simp only [List.length_append, List.length_cons, List.length_nil, List.length_take, List.length_drop]; omega)); (case g3 => first | omega | (simp only [List.length_append, List.length_cons, List.length_nil, List.length_take, List.length_drop]; omega)); walk_at "mine use"; k_whole); intro _ _ _ _ _ _; (try dsimp only); (try k_sweep))
  k_with "subscriptTail" => (k_here; (with_reducible show wpAny _ _ (subscriptTail _ _ (Value.bytes (List.toArray _) _) (Value.int _ _)) _ _ _); (refine KBy.item_N (by omega) (by omega) (by omega) ?_))
  refine wpAny_ret ?_
  intro Qf hQf
  refine wpAny_tk ?_
  intro tk
  try k_fold
  refine hExecs ?_
  k_steps
  refine Hold.mk (hExecs ?_)
  k_steps
  refine Hold.mk (hExecs ?_)
  k_steps
  refine Hold.mk (hExecs ?_)
  rename Fr s.heap L' _ _ => F3
  rename News s.heap L' _ _ => N3
  clear N3
  have F4 := Mine.Fr.congr (m' := dgM none none none ext p bias 0 1 0 t0 t1 t2 t3 _ _ _) F3 (map_ext [Str.ofString "char", Str.ofString "digit", Str.ofString "t", Str.ofString "extpos", Str.ofString "result", Str.ofString "w", Str.ofString "j", Str.ofString "errors", Str.ofString "bias", Str.ofString "extended"] (by walk_at "mine same1") (by unfold dgM; walk_at "mine same2"))
  refine hWhile (fun n s' => ∃ (u1 u2 u3 : Option Value) (q Nj res wt j : Int) (k1 k4 k5 k6 : Tok) (h : Heap) (tk : Nat), s' = { s with heap := h, toks := tk } ∧ Fr s.heap L' h (dgM u1 u2 u3 ext q bias res wt j t0 k1 t2 t3 k4 k5 k6) ∧
    0 ≤ q ∧ 0 ≤ Nj ∧ 0 ≤ j ∧ res + wt * Nj = N ∧ ext.drop q.toNat = (ggS Nj bias j).map upB ++ rest ∧ q + (ggS Nj bias j).length = p + (ggS N bias 0).length ∧ n = ext.length - q.toNat) ?_ (ext.length - p.toNat)
    ⟨_, _, _, p, N, 0, 1, 0, _, _, _, _, _, _, rfl, F4, h1, h2, Int.le_refl _, by omega, h4, rfl, rfl⟩ (by first | passes_own | with_unfolding_all passes_own)
  clear F3 F4
  rintro n s' ⟨u1, u2, u3, q, Nj, res, wt, j, k1, k4, k5, k6, h5, tk5, rfl, F5, q1, q2, q3, q4, q5, q6, q7⟩
  have N5 : News s.heap L' h5 [] := News.nil
  have hT1 := Tm_lo j bias
  have hT2 := Tm_hi j bias
  obtain ⟨d, tl, e1, d0, d1, hcase⟩ := ggS_head bias j q2
  rw [e1] at q5 q6
  have hq : q.toNat < ext.length := by
    rcases Nat.lt_or_ge q.toNat ext.length with h | h
    · exact h
    · rw [List.drop_eq_nil_of_le h] at q5; simp at q5
  have hg : ext.getD q.toNat 0 = upB d := by
    rw [List.drop_eq_getElem_cons hq] at q5
    simp only [List.map_cons, List.cons_append, List.cons.injEq] at q5
    rw [← q5.1]; simp [hq]
  have hcv := upB_cases d0 d1
  rw [← hg] at hcv
  rcases hcase with ⟨hlt, rfl, rfl⟩ | ⟨hge, hTd, hdv, htl⟩
  · rcases hcv with ⟨hd26, hcv⟩ | ⟨hd26, hcv⟩
    · k_steps
      rename News s.heap L' _ _ => N9
      rename Fr s.heap L' _ _ => F9
      have n9 := N9 _ (.head _)
      have o9 := tup_eq (x' := p + (ggS N bias 0).length) (y' := N) n9.1 (by simp only [List.length_cons, List.length_nil] at q6; omega) (by
        rw [hcv, ← q4]
        have : (65 + d - 65) * wt = wt * d := by rw [Int.mul_comm]; congr 1; omega
        omega)
      exact hQf _ _ (hret _ _ _ (Fr.keep F9) ⟨_, _, _, rfl, n9.2.2, o9⟩)
    · k_steps
      rename News s.heap L' _ _ => N9
      rename Fr s.heap L' _ _ => F9
      have n9 := N9 _ (.head _)
      have o9 := tup_eq (x' := p + (ggS N bias 0).length) (y' := N) n9.1 (by simp only [List.length_cons, List.length_nil] at q6; omega) (by
        rw [hcv, ← q4]
        have : (22 + d - 22) * wt = wt * d := by rw [Int.mul_comm]; congr 1; omega
        omega)
      exact hQf _ _ (hret _ _ _ (Fr.keep F9) ⟨_, _, _, rfl, n9.2.2, o9⟩)
  · have hless := gg_less hT1 hT2 hge
    have hdm : Tm j bias + (36 - Tm j bias) * Int.fdiv (Nj - Tm j bias) (36 - Tm j bias) + Int.fmod (Nj - Tm j bias) (36 - Tm j bias) = Nj := by
      have := Int.mul_fdiv_add_fmod (Nj - Tm j bias) (36 - Tm j bias)
      omega
    rcases hcv with ⟨hd26, hcv⟩ | ⟨hd26, hcv⟩
    · k_steps
      rename Fr s.heap L' _ _ => F9
      have F10 := Mine.Fr.congr (m' := dgM (some _) (some _) (some _) ext (q + 1) bias (res + d * wt) (wt * (36 - Tm j bias)) (j + 1) t0 _ t2 t3 _ _ _) F9 (map_ext [Str.ofString "char", Str.ofString "digit", Str.ofString "t", Str.ofString "extpos", Str.ofString "result", Str.ofString "w", Str.ofString "j", Str.ofString "errors", Str.ofString "bias", Str.ofString "extended"] (by
        rw [hcv, show (65 + d - 65 : Int) = d by omega]
        walk_at "mine same1") (by unfold dgM; walk_at "mine same2"))
      refine Hold.mk ⟨ext.length - (q + 1).toNat, by omega, _, _, _, q + 1, Int.fdiv (Nj - Tm j bias) (36 - Tm j bias), _, _, _, _, _, _, _, _, _, rfl, F10, by omega, hless.1, by omega, ?_, ?_, ?_, rfl⟩
      · rw [← q4, Int.mul_assoc]
        have : wt * Nj = wt * (d + (36 - Tm j bias) * Int.fdiv (Nj - Tm j bias) (36 - Tm j bias)) := by congr 1; omega
        rw [this, Int.mul_add, Int.mul_comm d wt]
        omega
      · have : (q + 1).toNat = q.toNat + 1 := by omega
        rw [this, ← List.drop_drop, q5, ← htl]
        simp
      · rw [← htl]
        simp only [List.length_cons] at q6
        omega
    · k_steps
      rename Fr s.heap L' _ _ => F9
      have F10 := Mine.Fr.congr (m' := dgM (some _) (some _) (some _) ext (q + 1) bias (res + d * wt) (wt * (36 - Tm j bias)) (j + 1) t0 _ t2 t3 _ _ _) F9 (map_ext [Str.ofString "char", Str.ofString "digit", Str.ofString "t", Str.ofString "extpos", Str.ofString "result", Str.ofString "w", Str.ofString "j", Str.ofString "errors", Str.ofString "bias", Str.ofString "extended"] (by
        rw [hcv, show (22 + d - 22 : Int) = d by omega]
        walk_at "mine same1") (by unfold dgM; walk_at "mine same2"))
      refine Hold.mk ⟨ext.length - (q + 1).toNat, by omega, _, _, _, q + 1, Int.fdiv (Nj - Tm j bias) (36 - Tm j bias), _, _, _, _, _, _, _, _, _, rfl, F10, by omega, hless.1, by omega, ?_, ?_, ?_, rfl⟩
      · rw [← q4, Int.mul_assoc]
        have : wt * Nj = wt * (d + (36 - Tm j bias) * Int.fdiv (Nj - Tm j bias) (36 - Tm j bias)) := by congr 1; omega
        rw [this, Int.mul_add, Int.mul_comm d wt]
        omega
      · have : (q + 1).toNat = q.toNat + 1 := by omega
        rw [this, ← List.drop_drop, q5, ← htl]
        simp
      · rw [← htl]
        simp only [List.length_cons] at q6
        omega

/-! part LS -/
/-- a text by the list of its signs' numbers -/
def ls (cs : List Nat) : Str := ⟨cs.toArray⟩
theorem ls_len (cs : List Nat) : (ls cs).length = cs.length := by simp [ls, Str.length]
theorem ls_app (a b : List Nat) : ls a ++ ls b = ls (a ++ b) := by
  show (⟨a.toArray ++ b.toArray⟩ : Str) = _
  simp [ls]
theorem ls_inj {a b : List Nat} : ls a = ls b ↔ a = b := by
  constructor
  · intro h
    have := congrArg (fun x : Str => x.cps.toList) h
    simpa [ls] using this
  · rintro rfl; rfl
theorem ls_take {cs : List Nat} {j : Int} (h0 : 0 ≤ j) (h1 : j ≤ cs.length) : Txt.slice (ls cs) none (some j) = ls (cs.take j.toNat) := by
  show StrLaws.sliceText (ls cs) none (some j) = _
  rw [StrLaws.sliceText_to ⟨h0, by simpa [ls] using h1⟩]
  simp [ls]
theorem ls_drop {cs : List Nat} {i : Int} (h0 : 0 ≤ i) (h1 : i ≤ cs.length) : Txt.slice (ls cs) (some i) none = ls (cs.drop i.toNat) := by
  show StrLaws.sliceText (ls cs) (some i) none = _
  rw [StrLaws.sliceText_from ⟨h0, by simpa [ls] using h1⟩]
  simp only [ls]
  rw [show (cs.toArray.toList.length : Int) = cs.length by simp, List.take_of_length_le (by simp; omega)]
section
variable {prog : Program} {w : World} {A : Around} {E : Value → Shared → Prop} {s : Shared} {h₀ : Heap} {L : Addr} {m : Str → Option Value} {news : List (Addr × Obj)} {cs a b : List Nat} {t u : Tok} {value slice : Expr}
theorem ls_callLen {Q : Value → Shared → Prop} (hz : cs.length < 2 ^ 24) (h : Q (.int cs.length (s.toks + 1)) { s with toks := s.toks + 1 + 1 }) : wpAny (model prog w) A (call (.builtin "len") [.str (ls cs) t]) Q E s := by
  refine P.len_str (by rw [ls_len]; omega) ?_
  rw [ls_len]; exact h
theorem ls_chr {Q : Value → Shared → Prop} {i : Int} (h0 : 0 ≤ i) (h1 : i ≤ 1114111) (h : ∀ t' k, Q (.str (ls [i.toNat]) t') { s with toks := k }) : wpAny (model prog w) A (call (.builtin "chr") [.int i t]) Q E s :=
  chr_of_range h0 h1 (h _ _)
theorem ls_ord {Q : Value → Shared → Prop} {c : Nat} (h : ∀ t' k, Q (.int (c : Int) t') { s with toks := k }) : wpAny (model prog w) A (call (.builtin "ord") [.str (ls [c]) t]) Q E s :=
  P.ord_of_char (h _ _)
theorem ls_add {Q : Value → Shared → Prop} (hz : a.length + b.length < 2 ^ 24) (h : ∀ t' k, Q (.str (ls (a ++ b)) t') { s with toks := k }) : wpAny (model prog w) A (binaryOp .Add (.str (ls a) t) (.str (ls b) u)) Q E s := by
  refine PyProof.Rows.add_str (fun t' k => ?_) (by rw [ls_len, ls_len, sizeLine_eq]; omega)
  rw [ls_app]; exact h t' k
theorem ls_eq {Q : Value → Shared → Prop} (h : Q (.bool (decide (a = b))) s) : wpAny (model prog w) A (compareOp .Eq (.str (ls a) t) (.str (ls b) u)) Q E s := by
  refine P.eq_str ?_
  have e : ((ls a).cps.toList == (ls b).cps.toList) = decide (a = b) := by simp only [ls]; rw [Bool.eq_iff_iff]; simp
  rw [e]; exact h
theorem ls_ne {Q : Value → Shared → Prop} (h : Q (.bool (decide (a ≠ b))) s) : wpAny (model prog w) A (compareOp .NotEq (.str (ls a) t) (.str (ls b) u)) Q E s := by
  refine P.ne_str ?_
  have e : ((ls a).cps.toList != (ls b).cps.toList) = decide (a ≠ b) := by simp only [ls]; rw [Bool.eq_iff_iff]; simp
  rw [e]; exact h
theorem ls_to {Q : Value → Shared → Prop} {j : Int} {uj : Tok} (hF : Fr h₀ L s.heap m) (hN : News h₀ L s.heap news) (h0 : 0 ≤ j) (h1 : j ≤ cs.length) (hz : cs.length < 2 ^ 24) (h : ∀ h' t' k, Fr h₀ L h' m → News h₀ L h' news → Q (.str (ls (cs.take j.toNat)) t') { s with heap := h', toks := k })
    (hs : subscripted slice false (.str (ls cs) t) (.ref s.heap.objs.size) = operate [.ref s.heap.objs.size, .str (ls cs) t] (getItem (.str (ls cs) t) (.ref s.heap.objs.size)) := by with_unfolding_all rfl)
    (ht : ∀ r, letTemporaryGo value (.str (ls cs) t) r = pure () := by intro _; with_unfolding_all rfl) :
    wpAny (model prog w) A (subscriptTail value slice (.str (ls cs) t) (.ref s.heap.objs.size)) Q E { s with heap := s.heap.push { cls := .type "slice", data := .fields #[.none, .int j uj, .none] } } := by
  refine slice_strN_ns hF hN (fun h' t' k a b => ?_) hs ht (by rw [ls_len, sizeLine_eq]; omega)
  rw [ls_take h0 h1]; exact h h' t' k a b
theorem ls_from {Q : Value → Shared → Prop} {i : Int} {ui : Tok} (hF : Fr h₀ L s.heap m) (hN : News h₀ L s.heap news) (h0 : 0 ≤ i) (h1 : i ≤ cs.length) (hz : cs.length < 2 ^ 24) (h : ∀ h' t' k, Fr h₀ L h' m → News h₀ L h' news → Q (.str (ls (cs.drop i.toNat)) t') { s with heap := h', toks := k })
    (hs : subscripted slice false (.str (ls cs) t) (.ref s.heap.objs.size) = operate [.ref s.heap.objs.size, .str (ls cs) t] (getItem (.str (ls cs) t) (.ref s.heap.objs.size)) := by with_unfolding_all rfl)
    (ht : ∀ r, letTemporaryGo value (.str (ls cs) t) r = pure () := by intro _; with_unfolding_all rfl) :
    wpAny (model prog w) A (subscriptTail value slice (.str (ls cs) t) (.ref s.heap.objs.size)) Q E { s with heap := s.heap.push { cls := .type "slice", data := .fields #[.int i ui, .none, .none] } } := by
  refine slice_strN_sn hF hN (fun h' t' k a b => ?_) hs ht (by rw [ls_len, sizeLine_eq]; omega)
  rw [ls_drop h0 h1]; exact h h' t' k a b
theorem ls_item0 {Q : Value → Shared → Prop} {c : Nat} {ui : Tok} (h : ∀ t' k, Q (.str (ls [c]) t') { s with toks := k })
    (hs : subscripted slice false (.str (ls (c :: cs)) t) (.int 0 ui) = operate [.str (ls (c :: cs)) t, .int 0 ui] (getItem (.str (ls (c :: cs)) t) (.int 0 ui)) := by with_unfolding_all rfl)
    (ht : ∀ r, letTemporaryGo value (.str (ls (c :: cs)) t) r = pure () := by intro _; with_unfolding_all rfl) :
    wpAny (model prog w) A (subscriptTail value slice (.str (ls (c :: cs)) t) (.int 0 ui)) Q E s :=
  tail_of_ItemOn ⟨"str", _, F.slot_str_getitem.lookup, typeIs_str _ _ _, P.getItem_str (c := c) (by decide) (by
    have e : seqIndex? 0 (ls (c :: cs)).length = some 0 := by rw [ls_len]; simp [seqIndex?]
    rw [e]; simp [ls]) (h _ _)⟩ hs ht
end

/-! part BY -/
theorem by_typeCall (a b c : Value) : checkTypeCall "str" ⟨[a, b, c], []⟩ = pure () := by kernel_rfl
theorem by_newCall (a b c : Value) : checkBuiltinCall "str.__new__" ⟨[.type "str", a, b, c], []⟩ = pure () := by kernel_rfl
theorem by_args_init (a b c d : Value) : argsOk "object.__init__" ⟨[a, b, c, d], []⟩ := by unfold argsOk; kernel_rfl
theorem by_sub_str : isSubtype (.type "str") (.type "str") = pure true := by rw [isSubtype_type]; kernel_rfl
theorem by_plain_new : plainId "str.__new__" = true := by decide +kernel
theorem by_args_decode (a : Value) (e r : Value) : argsOk "bytes.decode" ⟨[a], [(Str.ofString "encoding", e), (Str.ofString "errors", r)]⟩ := by unfold argsOk; kernel_rfl
section
variable {b : Array UInt8} {c : UInt8} {cs : List UInt8} {t t1 t2 : Tok}
theorem by_new_eq : Builtin.«str.__new__» ⟨[.type "str", .bytes b t, .str (Str.ofString "ascii") t1, .str (Str.ofString "strict") t2], []⟩ =
    (mkStr (Str.ofString "ascii") >>= fun e => mkStr (Str.ofString "strict") >>= fun r => rule "str.__new__.decode-bytes" >>= fun _ => call (.builtin "bytes.decode") [.bytes b t] [(Str.ofString "encoding", e), (Str.ofString "errors", r)] >>= fun v => ret v) := by kernel_rfl
theorem by_decode_eq : Builtin.«bytes.decode» ⟨[.bytes (c :: cs).toArray t], [(Str.ofString "encoding", .str (Str.ofString "ascii") t1), (Str.ofString "errors", .str (Str.ofString "strict") t2)]⟩ =
    (mkStr (Str.ofString "utf-8") >>= fun _ => mkStr (Str.ofString "ascii") >>= fun e => mkStr (Str.ofString "strict") >>= fun r => mkStr (Str.ofString "bytes.decode") >>= fun d =>
      call (.builtin "_codecs.decode.text") [.bytes (c :: cs).toArray t, e, r, d] >>= fun v => ret v) := by kernel_rfl
theorem by_road_eq {id : String} : Builtin._codecs.decodeRoad id b (Str.ofString "ascii") (some (Str.ofString "strict")) [] = (Builtin._codecs.runDecoder id Builtin._codecs.asciiDecoder (some (Str.ofString "strict")) true b 0 [] >>= fun r => mkStr ⟨r.1⟩) := by kernel_rfl
end
theorem by_loop {σ : Type} (l : List UInt8) (st : σ) (f : Nat → Nat × Array Nat × σ → Sem (ForInStep (Nat × Array Nat × σ)))
    (hf : ∀ x p, p < l.length → f x (p, ((l.take p).map (·.toNat)).toArray, st) = pure (.yield (p + 1, ((l.take (p + 1)).map (·.toNat)).toArray, st))) :
    ∀ k p, p + k = l.length → forIn (List.range' p k 1) (p, ((l.take p).map (·.toNat)).toArray, st) f = pure (l.length, (l.map (·.toNat)).toArray, st) := by
  intro k
  induction k with
  | zero => intro p hp; rw [List.range'_zero, List.forIn_nil, show p = l.length by omega, List.take_length]
  | succ k ih =>
    intro p hp
    rw [List.range'_succ, List.forIn_cons, hf _ p (by omega), pure_bind]
    exact ih (p + 1) (by omega)
theorem by_wrap {σ : Type} (l : List UInt8) (st : σ) (f : Nat → Nat × Array Nat × σ → Sem (ForInStep (Nat × Array Nat × σ)))
    (hf : ∀ x p, p < l.length → f x (p, ((l.take p).map (·.toNat)).toArray, st) = pure (.yield (p + 1, ((l.take (p + 1)).map (·.toNat)).toArray, st))) :
    (forIn (List.range' 0 l.length 1) (0, #[], st) f >>= fun s => pure (s.snd.fst, s.fst)) = (pure ((l.map (·.toNat)).toArray, l.length) : Sem _) := by
  have h := by_loop l st f hf l.length 0 (by omega)
  simp only [List.take_zero, List.map_nil] at h
  rw [h]
  rfl
theorem by_run {id : String} {er : Option Str} {held : List Value} (l : List UInt8) (hl : ∀ c ∈ l, c.toNat < 128) (hz : l.length ≤ sizeLine) : Builtin._codecs.runDecoder id Builtin._codecs.asciiDecoder er true l.toArray 0 held = pure ((l.map (·.toNat)).toArray, l.length) := by
  unfold Builtin._codecs.runDecoder
  simp only [Id.run]
  rw [Std.Legacy.Range.forIn_eq_forIn_range']
  simp only [Std.Legacy.Range.size, List.size_toArray, Nat.sub_zero, Nat.add_sub_cancel, Nat.div_one]
  refine by_wrap l _ _ fun x p hp => ?_
  have h1 : ¬ ((List.map (·.toNat) (l.take p)).toArray.size > sizeLine) := by simp; omega
  have h2 : ¬ (p ≥ l.length) := by omega
  have hg : l.toArray.getD p 0 = l[p] := by simp [hp]
  have h3 : (l.toArray.getD p 0).toNat < 128 := by rw [hg]; exact hl _ (List.getElem_mem hp)
  have h4 : Builtin._codecs.asciiDecoder.find true l.toArray p = .text [(l.toArray.getD p 0).toNat] (p + 1) := by
    show (if (l.toArray.getD p 0).toNat < 128 then Builtin._codecs.Found.char (l.toArray.getD p 0).toNat (p + 1) else _) = _
    rw [if_pos h3]; rfl
  simp only [if_neg h1, if_neg h2, h4, hg]
  congr 4
  rw [List.take_add_one, List.map_append]
  simp [hp]
section
variable {prog : Program} {w : World} {A : Around} {E : Value → Shared → Prop} {s : Shared} {t t1 t2 : Tok} {b : List UInt8}
theorem by_ascii {Q : Value → Shared → Prop} (hb : b ≠ []) (hl : ∀ c ∈ b, c.toNat < 128) (hz : b.length < 2 ^ 24) (h : ∀ t' k, Q (.str (ls (b.map (·.toNat))) t') { s with toks := k }) :
    wpAny (model prog w) A (call (.type "str") [.bytes b.toArray t, .str (Str.ofString "ascii") t1, .str (Str.ofString "strict") t2]) Q E s := by
  obtain ⟨c, cs, rfl⟩ := List.exists_cons_of_ne_nil hb
  refine callType_codes (Q₁ := fun obj s₁ => s₁.TypeIs obj "str" ∧ Q obj s₁) F.called_str (by_typeCall _ _ _) F.entry_object_init ?_ fun obj s₁ h₁ => ?_
  · refine codeAny_of_tree ?_
    show wpAny _ A.in1.in1 (do checkBuiltinCall "str.__new__" ⟨[.type "str", .bytes (c :: cs).toArray t, .str (Str.ofString "ascii") t1, .str (Str.ofString "strict") t2], []⟩; again (.builtin "str.__new__" ⟨[.type "str", .bytes (c :: cs).toArray t, .str (Str.ofString "ascii") t1, .str (Str.ofString "strict") t2], []⟩)) _ _ s
    refine wpAny_bind (wpAny_of_eq (by_newCall _ _ _) (wpAny_pure ⟨plainId_quiet by_plain_new _, codeAny_builtin F.entry_str_new ?_⟩))
    rw [Around.under_plainId by_plain_new _, by_new_eq]
    refine wpAny_bind (wpAny_mkStr ?_ (by decide))
    refine wpAny_bind (wpAny_mkStr ?_ (by decide))
    refine wpAny_bind (wpAny_rule ?_)
    refine wpAny_bind ?_
    refine wpAny_call (codeAny_call_builtin PySem.W.FB.slot_bytes_decode.plain PySem.W.FB.entry_bytes_decode (PySem.W.FB.slot_bytes_decode.check _ _ _ _ _ _ _ _ (PySem.W.typeIs_bytes _ _ _) (by_args_decode _ _ _) ?_))
    rw [by_decode_eq]
    refine wpAny_bind (wpAny_mkStr ?_ (by decide))
    refine wpAny_bind (wpAny_mkStr ?_ (by decide))
    refine wpAny_bind (wpAny_mkStr ?_ (by decide))
    refine wpAny_bind (wpAny_mkStr ?_ (by decide))
    refine wpAny_bind ?_
    refine call_function_entry PySem.W.KBd.kind_text PySem.W.KBd.plain_text PySem.W.KBd.entry_text (PySem.W.KBd.args_text _ _ _ _) ?_
    show wpAny _ _ (Builtin.Bytes.bytesLike _ (.bytes (c :: cs).toArray t) >>= fun r => _) _ _ _
    refine wpAny_bind (wpAny_of_eq PySem.W.KBd.like_eq ?_)
    refine wpAny_bind (wpAny_of_eq PySem.W.KBd.held_eq ?_)
    show wpAny _ _ (Builtin._codecs.decodeRoad _ (c :: cs).toArray (Str.ofString "ascii") (some (Str.ofString "strict")) [] >>= fun v => _) _ _ _
    rw [by_road_eq, by_run _ hl (by rw [sizeLine_eq]; omega)]
    refine wpAny_bind (wpAny_bind (wpAny_pure ?_))
    refine wpAny_mkStr (wpAny_pure ⟨_, rfl, wpAny_pure (wpAny_pure ⟨PySem.typeIs_str _ _ _, h _ _⟩)⟩) ?_
    show (List.map (fun x => x.toNat) (c :: cs)).toArray.size ≤ sizeLine
    rw [sizeLine_eq]; simp only [List.size_toArray, List.length_map]; omega
  · exact ⟨h₁.1, by_args_init obj _ _ _, object_init_meets F.called_str.init.lookup F.called_str.made (by decide) prog w A.in1 _ s₁ ⟨h₁.1, rfl, h₁.2⟩⟩
end
/-! rfind of one sign, upper -/
theorem by_slot_rfind : Slot "bytes" "rfind" "bytes.rfind" :=
  .of (owner := "bytes") (n := "rfind") (by rw [typeLookup_type, builtinLookup_eq_fast]; kernel_rfl) (by decide +kernel) (by decide +kernel) (by decide +kernel)
    (by first | exact .inl (by decide +kernel) | exact .inr (by decide +kernel)) (by rw [isSubtype_type]; kernel_rfl)
theorem by_entry_rfind : entryFor table "bytes.rfind" = some Builtin.«bytes.rfind» := entryFor_of_tree (by kernel_rfl)
theorem by_args_rfind (a b : Value) : argsOk "bytes.rfind" ⟨[a, b], []⟩ := by unfold argsOk; kernel_rfl
theorem by_ty_rfind : typeOf (.builtin "bytes.rfind") = pure (.type "method_descriptor") := by show builtinType _ = _; rw [builtinType_eq_fast]; kernel_rfl
theorem by_slot_upper : Slot "bytes" "upper" "bytes.upper" :=
  .of (owner := "bytes") (n := "upper") (by rw [typeLookup_type, builtinLookup_eq_fast]; kernel_rfl) (by decide +kernel) (by decide +kernel) (by decide +kernel)
    (by first | exact .inl (by decide +kernel) | exact .inr (by decide +kernel)) (by rw [isSubtype_type]; kernel_rfl)
theorem by_entry_upper : entryFor table "bytes.upper" = some Builtin.«bytes.upper» := entryFor_of_tree (by kernel_rfl)
theorem by_args_upper (a : Value) : argsOk "bytes.upper" ⟨[a], []⟩ := by unfold argsOk; kernel_rfl
theorem by_ty_upper : typeOf (.builtin "bytes.upper") = pure (.type "method_descriptor") := by show builtinType _ = _; rw [builtinType_eq_fast]; kernel_rfl
theorem by_rfind (a b : List UInt8) (c : UInt8) (hb : c ∉ b) : Builtin.Bytes.rfind? (a ++ c :: b).toArray #[c] 0 (a ++ c :: b).length = some a.length := by
  unfold Builtin.Bytes.rfind?
  have hn : (a ++ c :: b).length + 1 - (0 + (#[c] : Array UInt8).size) = a.length + (1 + b.length) := by simp; omega
  rw [hn]
  have ex : ∀ i, ((a ++ c :: b).toArray.extract i (i + (#[c] : Array UInt8).size) == #[c]) = decide ((a ++ c :: b)[i]? = some c) := by
    intro i
    rw [Bool.eq_iff_iff]
    simp only [beq_iff_eq, decide_eq_true_eq]
    rw [List.extract_toArray]
    by_cases h : i < (a ++ c :: b).length
    · rw [List.getElem?_eq_getElem h]
      have : List.take (i + (#[c] : Array UInt8).size - i) (List.drop i (a ++ c :: b)) = [(a ++ c :: b)[i]] := by
        rw [show i + (#[c] : Array UInt8).size - i = 1 from Nat.add_sub_cancel_left .., List.drop_eq_getElem_cons h, List.take_succ_cons, List.take_zero]
      simp only [List.extract_eq_take_drop, this]
      simp
    · rw [List.getElem?_eq_none (by omega)]
      simp only [List.extract_eq_take_drop, List.drop_eq_nil_of_le (Nat.le_of_not_lt h)]
      simp
  simp only [ex]
  rw [show (fun x : Nat => x + 0) = id from rfl, List.map_id, List.range_add, List.reverse_append, List.find?_append, show (1 + b.length) = b.length + 1 by omega, List.range_succ_eq_map]
  simp only [List.map_cons, List.map_map, List.reverse_cons, List.find?_append, Nat.add_zero]
  have hno : List.find? (fun i => decide ((a ++ c :: b)[i]? = some c)) (List.map ((fun x => a.length + x) ∘ Nat.succ) (List.range b.length)).reverse = none := by
    rw [List.find?_eq_none]
    intro x hx
    simp only [List.mem_reverse, List.mem_map, Function.comp, List.mem_range] at hx
    obtain ⟨k, hk, rfl⟩ := hx
    simp only [decide_eq_true_eq]
    rw [List.getElem?_append_right (by omega)]
    rw [show a.length + k.succ - a.length = k + 1 by omega, List.getElem?_cons_succ]
    intro e
    exact hb (List.mem_of_getElem? e)
  rw [hno]
  simp
section
variable {prog : Program} {w : World} {A : Around} {E : Value → Shared → Prop} {s : Shared} {t u : Tok} {a b : List UInt8} {c : UInt8}
theorem by_searchArgs {x y : Array UInt8} : Builtin.Bytes.searchArgs .bytes "rfind" ⟨[.bytes x t, .bytes y u], []⟩ =
    pure (x, y, if (Builtin.Bytes.window x.size none none).2 - (Builtin.Bytes.window x.size none none).1 < y.size then none else some ((Builtin.Bytes.window x.size none none).1.toNat, (Builtin.Bytes.window x.size none none).2.toNat)) := by
  unfold Builtin.Bytes.searchArgs
  kernel_rfl
theorem by_callRfind {Q : Value → Shared → Prop} (hb : c ∉ b) (h : ∀ t' k, Q (.int (a.length : Int) t') { s with toks := k }) :
    wpAny (model prog w) A (call (.builtin "bytes.rfind") [.bytes (a ++ c :: b).toArray t, .bytes #[c] u]) Q E s := by
  refine wpAny_call_entry by_slot_rfind (PySem.W.typeIs_bytes _ _ _) by_entry_rfind ?_ (by_args_rfind _ _)
  unfold Builtin.«bytes.rfind» Builtin.Bytes.searchM
  have e : Builtin.Bytes.searchArgs .bytes "rfind" ⟨[.bytes (a ++ c :: b).toArray t, .bytes #[c] u], []⟩ = pure ((a ++ c :: b).toArray, #[c], some (0, (a ++ c :: b).length)) := by
    rw [by_searchArgs]
    have hw : Builtin.Bytes.window (a ++ c :: b).toArray.size none none = (0, ((a ++ c :: b).length : Int)) := by
      simp only [Builtin.Bytes.window, Option.getD_none, List.size_toArray]
      rw [if_neg (by omega), if_neg (by omega), Int.min_self]
    rw [hw]
    rw [if_neg (by show ¬ (((a ++ c :: b).length : Int) - 0 < ((1 : Nat) : Int)); simp; omega)]
    rfl
  refine wpAny_bind (wpAny_of_eq e ?_)
  simp only [Option.bind_some, if_true]
  rw [by_rfind a b c hb]
  exact wpAny_bind (wpAny_mkInt (wpAny_pure ⟨_, rfl, h _ _⟩))
theorem by_callUpper {Q : Value → Shared → Prop} (hz : a.length < 2 ^ 24) (h : ∀ t' k, Q (.bytes (a.map Builtin.Bytes.toUpper).toArray t') { s with toks := k }) :
    wpAny (model prog w) A (call (.builtin "bytes.upper") [.bytes a.toArray t]) Q E s := by
  refine wpAny_call_entry by_slot_upper (PySem.W.typeIs_bytes _ _ _) by_entry_upper ?_ (by_args_upper _)
  show wpAny _ _ (mkBytes (a.toArray.toList.map Builtin.Bytes.toUpper).toArray >>= fun v => ret v) _ _ _
  refine wpAny_bind (wpAny_mkBytes (wpAny_pure ⟨_, rfl, h _ _⟩) ?_)
  rw [sizeLine_eq]; simp only [List.size_toArray, List.length_map]; omega
end

/-! part INS -/
section
variable {w : World} {f : Addr} {d u : Nat} {vs : List Value} {Pre : Heap → Prop} {x y : Int}
  {dp un : Nat} {gd : Option (List Code)} {cn : Str} {cs : Scope} {a : Addr} {ccd : Value} {cl : List (Str × Addr)} {outer : List Env} {A₀ : Around} {base h₀ : Heap} {L : Addr} {m : Str → Option Value}
    {mean : ExcName → Option Value} {mg mb : Str → Option Value} {s : Shared} {E : Value → Shared → Prop} {Q : Value → Shared → Prop} {news : List (Addr × Obj)}
theorem News.fresh1 {h h' : Heap} {a : Addr} {ob : Obj} (F : Fr h₀ L h m) (N : News h₀ L h news) (k : Kept h h') (e : h.get? a = none) (o : h'.get? a = some ob) : News h₀ L h' ((a, ob) :: news) := by
  intro p hp
  rcases List.mem_cons.mp hp with rfl | hp
  · obtain ⟨oL, _, _, hL, _⟩ := F.ns
    refine ⟨o, fun (q : a = L) => ?_, ?_⟩
    · rw [q, hL] at e; cases e
    · cases hq : h₀.get? a with
      | none => rfl
      | some o' => have := F.keep _ _ hq; rw [this] at e; cases e
  · exact ⟨k _ _ (N p hp).1, (N p hp).2⟩
theorem pcon_tup (C : PCon w f d u vs Pre (fun h h' v => ∃ a t t', v = .ref a ∧ h.get? a = none ∧ h'.get? a = some (tup2 (.int x t) (.int y t')))) (B : Below A₀ base outer h₀) (F : Fr h₀ L s.heap m) (X : (Mine.hd.heap_39 w.params).In h₀) (T : Top Mine.hd.view_39 (looseW Mine.hd.view_39 []) mean mg mb h₀) (N : News h₀ L s.heap news)
    (hk : cs.kind = .function) (hp : Pre s.heap) (hd : dp + d < recursionLimit) (hu : un + u < cLine)
    (h : ∀ a t t' h' tk', Fr h₀ L h' m → News h₀ L h' ((a, tup2 (.int x t) (.int y t')) :: news) → Q (.ref a) { s with heap := h', toks := tk' }) :
    wpAny (model PySem.Challenge.rw_mq0024_01.row.prog w) (ktrTop dp un gd cn cs L a ccd cl outer) (call (.ref f) vs) Q E s := by
  refine C _ _ _ _ _ _ _ _ _ _ _ _ _ _ _ _ _ _ _ _ B F X T hk hp hd hu ?_
  rintro v h' tk' k ⟨a, t, t', rfl, e, o⟩
  exact h a t t' h' tk' (Mine.Fr.kept F k) (News.fresh1 F N k e o)
end
/-- the bytes of a row of numbers behind upper() -/
def giU (baselen : Int) : Nat → Int → List Int → List UInt8
  | _, _, [] => []
  | p, bias, d :: ds => (ggS d bias 0).map upB ++ giU baselen (p + 1) (Ad d ((p : Int) == 0) (baselen + p + 1)) ds
/-- the signs as the numbers lay them -/
def insL : List Int → Int → Int → List Nat → List Nat
  | [], _, _, cs => cs
  | d :: ds, c, p, cs => insL ds (c + Int.fdiv (p + (d + 1)) (cs.length + 1)) (Int.fmod (p + (d + 1)) (cs.length + 1))
      (cs.take (Int.fmod (p + (d + 1)) (cs.length + 1)).toNat ++ (c + Int.fdiv (p + (d + 1)) (cs.length + 1)).toNat :: cs.drop (Int.fmod (p + (d + 1)) (cs.length + 1)).toNat)
theorem sum_nonneg : ∀ (l : List Int), (∀ n ∈ l, 0 ≤ n) → 0 ≤ (l.map (· + 1)).sum
  | [], _ => by simp
  | a :: l, h => by
    have h1 := h a (.head _)
    have h2 := sum_nonneg l fun n hn => h n (.tail _ hn)
    simp only [List.map_cons, List.sum_cons]
    omega
def inM (u1 u2 : Option Value) (base : List Nat) (ext : List UInt8) (c p bias q : Int) (t0 t1 t2 t3 t4 t5 t6 : Tok) (y : Str) : Option Value :=
  if y = Str.ofString "newpos" then u1 else if y = Str.ofString "delta" then u2 else if y = Str.ofString "base" then some (.str (ls base) t0) else if y = Str.ofString "char" then some (.int c t3) else if y = Str.ofString "pos" then some (.int p t4) else if y = Str.ofString "bias" then some (.int bias t5) else if y = Str.ofString "extpos" then some (.int q t6)
  else if y = Str.ofString "errors" then some (.str (Str.ofString "strict") t2) else if y = Str.ofString "extended" then some (.bytes ext.toArray t1) else none
set_option maxHeartbeats 8000000 in
theorem ins_con (w : World) (cs₀ : List Nat) (ext : List UInt8) (ns : List Int) (t0 t1 t2 : Tok) (hext : ext = giU cs₀.length 0 72 ns) (hn : ∀ n ∈ ns, 0 ≤ n ∧ n < 2 ^ 20 - 1) (hl : ns.length ≤ 8) (hcs : cs₀.length ≤ 100) (hcr : ∀ c ∈ cs₀, c < 1114112) (hsum : (ns.map (· + 1)).sum ≤ 1000000) (hz : ext.length < 2 ^ 24) :
    PCon w 56 4 40 [.str (ls cs₀) t0, .bytes ext.toArray t1, .str (Str.ofString "strict") t2] (fun _ => True)
      (fun _ _ v => ∃ t, v = .str (ls (insL ns 128 (-1) cs₀)) t) := by
  unfold PCon
  k_fill
  w_top off
  intro dp un gd cn cs a ccd cl outer A₀ base h₀ L m mean mg mb s Q E B F X T hk _ hd hu hret
  walk_at "mine enterA"
  intro L' h' F' N' B' X' T'
  replace F' := Mine.Fr.congr (m' := fun y => if y = Str.ofString "errors" then some (.str (Str.ofString "strict") t2) else if y = Str.ofString "extended" then some (.bytes ext.toArray t1) else if y = Str.ofString "base" then some (.str (ls cs₀) t0) else none) F' lk3
  k_with_none
  k_with "call ref" => (k_here; (show wpAny _ _ (call (Value.ref 21) [Value.int _ _, Value.int _ _]) _ _ _); k_dflt (refine' pcon_val (T_con _ _ _ _ _) ?k1 ?k2 ?k3 ?k4 ?k5 ?kK trivial ?kd ?ku ?_; walk_at "mine use"; k_whole); intro _ _ _ _ _ _; (try dsimp only); (try k_sweep))
  k_with "call ref" => (k_here; (show wpAny _ _ (call (Value.ref 35) [Value.int _ _, Value.bool _, Value.int _ _]) _ _ _); k_dflt (refine' pcon_val (adapt_con _ _ _ _ _ _ ?g1 ?g2 ?g3) ?k1 ?k2 ?k3 ?k4 ?k5 ?kK trivial ?kd ?ku ?_; (case g1 => omega); (case g2 => first | omega | (simp only [List.length_append, List.length_cons, List.length_nil, List.length_take, List.length_drop]; omega)); (case g3 => first | omega | (simp only [List.length_append, List.length_cons, List.length_nil, List.length_take, List.length_drop]; omega)); walk_at "mine use"; k_whole); intro _ _ _ _ _ _; (try dsimp only); (try k_sweep))
  k_with "call builtin:len" => ((with_reducible show wpAny _ _ (call (Value.builtin "len") [Value.str (ls _) _]) _ _ _); (refine ls_callLen (by first | omega | (simp only [List.length_append, List.length_cons, List.length_nil, List.length_take, List.length_drop]; omega)) ?_))
  k_with "call builtin:chr" => ((with_reducible show wpAny _ _ (call (Value.builtin "chr") [Value.int _ _]) _ _ _); (refine ls_chr (by omega) (by omega) ?_); intro _ _)
  k_with "call builtin:ord" => ((with_reducible show wpAny _ _ (call (Value.builtin "ord") [Value.str (ls [_]) _]) _ _ _); (refine ls_ord ?_); intro _ _)
  k_with "binaryOp Add str str" => ((with_reducible show wpAny _ _ (binaryOp Operator.Add (Value.str (ls _) _) (Value.str (ls _) _)) _ _ _); (refine ls_add (by first | omega | (simp only [List.length_append, List.length_cons, List.length_nil, List.length_take, List.length_drop]; omega)) ?_); intro _ _)
  k_with "compareOp Eq str str" => ((with_reducible show wpAny _ _ (compareOp CmpOp.Eq (Value.str (ls _) _) (Value.str (ls _) _)) _ _ _); (refine ls_eq ?_))
  k_with "compareOp NotEq str str" => ((with_reducible show wpAny _ _ (compareOp CmpOp.NotEq (Value.str (ls _) _) (Value.str (ls _) _)) _ _ _); (refine ls_ne ?_))
  k_with "subscriptTail Name Slice str ref" => ((with_reducible show wpAny _ _ (subscriptTail _ (Expr.Slice none (some _) none _) (Value.str (ls _) _) _) _ _ _); (with_reducible rename Fr _ _ _ _ => Fw); (with_reducible rename News _ _ _ _ => Nw); (refine ls_to (s := ⟨_, _, _, _, _⟩) Fw Nw (by omega) (by omega) (by omega) ?_); intro _ _ _ _ _)
  k_with "subscriptTail Name Slice str ref" => ((with_reducible show wpAny _ _ (subscriptTail _ (Expr.Slice (some _) none none _) (Value.str (ls _) _) _) _ _ _); (with_reducible rename Fr _ _ _ _ => Fw); (with_reducible rename News _ _ _ _ => Nw); (refine ls_from (s := ⟨_, _, _, _, _⟩) Fw Nw (by omega) (by omega) (by omega) ?_); intro _ _ _ _ _)
  k_with "subscriptTail" => ((with_reducible show wpAny _ _ (subscriptTail _ _ (Value.str (ls (_ :: _)) _) (Value.int 0 _)) _ _ _); (refine ls_item0 ?_); intro _ _)
  k_with "call ref" => (k_here; (show wpAny _ _ (call (Value.ref 49) [Value.bytes (List.toArray _) _, Value.int _ _, Value.int _ _, Value.str _ _]) _ _ _); k_dflt (refine' pcon_tup (dgn_con _ _ _ _ _ _ _ _ _ _ ?g1 ?g2 ?g3 ?g4) ?k1 ?k2 ?k3 ?k4 ?k5 ?kK trivial ?kd ?ku ?_; (case g4 => assumption); (case g1 => omega); (case g2 => omega); (case g3 => omega); walk_at "mine use"; k_whole); intro _ _ _ _ _ _ _; (try dsimp only); (try k_sweep))
  refine wpAny_ret ?_
  intro Qf hQf
  refine wpAny_tk ?_
  intro tk
  try k_fold
  refine hExecs ?_
  k_steps
  refine Hold.mk (hExecs ?_)
  k_steps
  refine Hold.mk (hExecs ?_)
  k_steps
  refine Hold.mk (hExecs ?_)
  k_steps
  refine Hold.mk (hExecs ?_)
  rename Fr s.heap L' _ _ => F3
  rename News s.heap L' _ _ => N3
  clear N3
  have F4 := Mine.Fr.congr (m' := inM none none cs₀ ext 128 (-1) 72 0 t0 t1 t2 _ _ _ _) F3 (map_ext [Str.ofString "newpos", Str.ofString "delta", Str.ofString "base", Str.ofString "char", Str.ofString "pos", Str.ofString "bias", Str.ofString "extpos", Str.ofString "errors", Str.ofString "extended"] (by walk_at "mine same1") (by unfold inM; walk_at "mine same2"))
  refine hWhile (fun n s' => ∃ (u1 u2 : Option Value) (i : Nat) (cs : List Nat) (c p bias q : Int) (k0 k3 k4 k5 k6 : Tok) (h : Heap) (tk : Nat), s' = { s with heap := h, toks := tk } ∧ Fr s.heap L' h (inM u1 u2 cs ext c p bias q k0 t1 t2 k3 k4 k5 k6) ∧
    i ≤ ns.length ∧ cs.length = cs₀.length + i ∧ 0 ≤ q ∧ ext.drop q.toNat = giU cs₀.length i bias (ns.drop i) ∧ insL (ns.drop i) c p cs = insL ns 128 (-1) cs₀ ∧ -1 ≤ p ∧ p ≤ cs.length ∧ 128 ≤ c ∧ c + ((ns.drop i).map (· + 1)).sum ≤ 1000128 ∧ ((i = 0 ∧ q = 0) ∨ (0 < i ∧ 0 < q)) ∧ (∀ x ∈ cs, x < 1114112) ∧ n = ns.length - i) ?_ ns.length
    ⟨_, _, 0, cs₀, 128, -1, 72, 0, _, _, _, _, _, _, _, rfl, F4, Nat.zero_le _, rfl, Int.le_refl _, hext, rfl, Int.le_refl _, by omega, Int.le_refl _, by simp only [List.drop_zero]; omega, .inl ⟨rfl, rfl⟩, hcr, rfl⟩ (by first | passes_own | with_unfolding_all passes_own)
  clear F3 F4
  rintro n s' ⟨u1, u2, i, cs, c, p, bias, q, k0, k3, k4, k5, k6, h5, tk5, rfl, F5, i1, i2, i3, i4, i5, i6, i7, i8, i9, i10, i11, i12⟩
  have N5 : News s.heap L' h5 [] := News.nil
  by_cases hin : i < ns.length
  · have hdr : ns.drop i = ns[i] :: ns.drop (i + 1) := List.drop_eq_getElem_cons hin
    have hmem := hn ns[i] (List.getElem_mem hin)
    rw [hdr] at i4 i5 i9
    simp only [giU, insL, List.map_cons, List.sum_cons] at i4 i5 i9
    have hq : q.toNat < ext.length := by
      rcases Nat.lt_or_ge q.toNat ext.length with h | h
      · exact h
      · rw [List.drop_eq_nil_of_le h] at i4
        obtain ⟨d, tl, e1, _⟩ := ggS_head bias 0 hmem.1
        rw [e1] at i4; simp at i4
    generalize ns[i] = d at *
    have m1 := fmod_lo (p + (d + 1)) (n := cs.length + 1) (by omega)
    have m2 := fmod_hi (p + (d + 1)) (n := cs.length + 1) (by omega)
    have m3 : 0 ≤ Int.fdiv (p + (d + 1)) (cs.length + 1) := by rw [Int.fdiv_eq_ediv_of_nonneg _ (by omega)]; exact Int.ediv_nonneg (by omega) (by omega)
    have m4 : Int.fdiv (p + (d + 1)) (cs.length + 1) ≤ d + 1 := by
      rw [Int.fdiv_eq_ediv_of_nonneg _ (by omega)]
      exact Int.ediv_le_of_le_mul (by omega) (by have : 0 ≤ d * (cs.length : Int) := Int.mul_nonneg (by omega) (by omega); rw [Int.add_mul, Int.mul_add, Int.one_mul]; omega)
    have hsm : 0 ≤ ((ns.drop (i + 1)).map (· + 1)).sum := sum_nonneg (ns.drop (i + 1)) fun n h => (hn n (List.mem_of_mem_drop h)).1
    k_steps
    rename Fr s.heap L' _ _ => F9
    obtain ⟨hd0, tl0, e0, -⟩ := ggS_head bias 0 hmem.1
    have hgl : 0 < (ggS d bias 0).length := by rw [e0]; simp
    have hlen : (cs.take (Int.fmod (p + (d + 1)) (cs.length + 1)).toNat ++ [(c + Int.fdiv (p + (d + 1)) (cs.length + 1)).toNat] ++ cs.drop (Int.fmod (p + (d + 1)) (cs.length + 1)).toNat).length = cs₀.length + (i + 1) := by
      simp only [List.length_append, List.length_cons, List.length_nil, List.length_take, List.length_drop]; omega
    have F10 := Mine.Fr.congr (m' := inM (some _) (some _) (cs.take (Int.fmod (p + (d + 1)) (cs.length + 1)).toNat ++ [(c + Int.fdiv (p + (d + 1)) (cs.length + 1)).toNat] ++ cs.drop (Int.fmod (p + (d + 1)) (cs.length + 1)).toNat) ext (c + Int.fdiv (p + (d + 1)) (cs.length + 1)) (Int.fmod (p + (d + 1)) (cs.length + 1)) (Ad d (q == 0) _) (q + (ggS d bias 0).length) _ t1 t2 _ _ _ _) F9 (map_ext [Str.ofString "newpos", Str.ofString "delta", Str.ofString "base", Str.ofString "char", Str.ofString "pos", Str.ofString "bias", Str.ofString "extpos", Str.ofString "errors", Str.ofString "extended"] (by walk_at "mine same1") (by unfold inM; walk_at "mine same2"))
    refine Hold.mk ⟨ns.length - (i + 1), by omega, _, _, i + 1, _, _, _, _, _, _, _, _, _, _, _, _, rfl, F10, hin, hlen, by omega, ?_, ?_, by omega, ?_, by omega, by omega, .inr ⟨by omega, by omega⟩, ?_, rfl⟩
    · have : (q + (ggS d bias 0).length).toNat = q.toNat + (ggS d bias 0).length := by omega
      rw [this, ← List.drop_drop, i4]
      rw [List.drop_left' (by simp)]
      congr 2
      · rcases i10 with ⟨a, b⟩ | ⟨a, b⟩
        · subst a b; rfl
        · have e1 : (q == 0) = false := by simp; omega
          have e2 : ((i : Int) == 0) = false := by simp; omega
          rw [e1, e2]
      · rw [hlen]; push_cast; omega
    · rw [← i5]
      simp
    · rw [hlen]; omega
    · intro x hx
      simp only [List.mem_append, List.mem_singleton] at hx
      rcases hx with (hx | hx) | hx
      · exact i11 x (List.mem_of_mem_take hx)
      · omega
      · exact i11 x (List.mem_of_mem_drop hx)
  · have hie : i = ns.length := by omega
    rw [hie, List.drop_length] at i4 i5
    have hq : ext.length ≤ q.toNat := by
      rw [giU] at i4
      simpa using i4
    k_steps
    refine Hold.mk ?_
    k_steps
    rename Fr s.heap L' _ _ => F9
    refine hQf _ _ (hret _ _ _ (Fr.keep F9) ⟨_, congrArg (fun z => Value.str (ls z) _) ?_⟩)
    rw [← i5]
    rfl

/-! part PD -/
theorem up_dig : ∀ k : Fin 36, Builtin.Bytes.toUpper (digB k.val) = upB k.val ∧ digB k.val ≠ 45 := by decide +kernel
theorem ggD_in : ∀ (k : Nat) (N bias j : Int), N.toNat ≤ k → 0 ≤ N → ∀ d ∈ ggD k N bias j, 0 ≤ d ∧ d < 36 := by
  intro k
  induction k with
  | zero => intro N bias j h h0 d hd; simp only [ggD, List.mem_singleton] at hd; omega
  | succ k ih =>
    intro N bias j h h0 d hd
    have h1 := Tm_lo j bias
    have h2 := Tm_hi j bias
    simp only [ggD] at hd
    split at hd
    · simp only [List.mem_singleton] at hd; omega
    · rename_i hn
      have hl := gg_less h1 h2 hn
      have m1 := fmod_lo (N - Tm j bias) (n := 36 - Tm j bias) (by omega)
      have m2 := fmod_hi (N - Tm j bias) (n := 36 - Tm j bias) (by omega)
      rcases List.mem_cons.mp hd with rfl | hd
      · omega
      · exact ih _ _ _ (by omega) hl.1 d hd
theorem ggB_up {N : Int} (bias : Int) (h : 0 ≤ N) : (ggB N bias).toList.map Builtin.Bytes.toUpper = (ggS N bias 0).map upB ∧ 45 ∉ (ggB N bias).toList := by
  have hin := ggD_in N.toNat N bias 0 (Nat.le_refl _) h
  have one : ∀ d ∈ ggS N bias 0, Builtin.Bytes.toUpper (digB d) = upB d ∧ digB d ≠ 45 := fun d hd => by
    have := up_dig ⟨d.toNat, by have := hin d hd; omega⟩
    simpa only [Int.toNat_of_nonneg (hin d hd).1] using this
  unfold ggB
  simp only [List.map_map]
  refine ⟨List.map_congr_left fun d hd => (one d hd).1, fun hm => ?_⟩
  obtain ⟨d, hd, e⟩ := List.mem_map.mp hm
  exact (one d hd).2 e
theorem giA_up (baselen : Int) : ∀ (ns : List Int) (p : Nat) (bias : Int), (∀ n ∈ ns, 0 ≤ n) → (giA baselen p bias ns).toList.map Builtin.Bytes.toUpper = giU baselen p bias ns ∧ 45 ∉ (giA baselen p bias ns).toList
  | [], _, _, _ => by simp [giA, giU]
  | n :: ns, p, bias, h => by
    have h1 := ggB_up bias (h n (.head _))
    have h2 := giA_up baselen ns (p + 1) (Ad n ((p : Int) == 0) (baselen + p + 1)) fun m hm => h m (.tail _ hm)
    simp only [giA, giU, Array.toList_append, List.map_append, List.mem_append, not_or]
    exact ⟨by rw [h1.1, h2.1], h1.2, h2.2⟩
theorem giA_size (baselen : Int) : ∀ (ns : List Int) (p : Nat) (bias : Int), (∀ n ∈ ns, 0 ≤ n ∧ n < 2 ^ 20 - 1) → (giA baselen p bias ns).size ≤ ns.length * 2 ^ 20
  | [], _, _, _ => by simp [giA]
  | n :: ns, p, bias, h => by
    have h1 := ggB_size n bias
    have h2 := giA_size baselen ns (p + 1) (Ad n ((p : Int) == 0) (baselen + p + 1)) fun m hm => h m (.tail _ hm)
    have h3 := h n (.head _)
    simp only [giA, Array.size_append, List.length_cons]
    omega
section
variable {prog : Program} {w : World} {A : Around} {E : Value → Shared → Prop} {s : Shared} {h₀ : Heap} {L : Addr} {m : Str → Option Value} {news : List (Addr × Obj)} {a b : List UInt8} {c : UInt8} {t : Tok} {value slice : Expr}
theorem by_to {Q : Value → Shared → Prop} {uj : Tok} (hF : Fr h₀ L s.heap m) (hN : News h₀ L s.heap news) (hz : (a ++ b).length < 2 ^ 24) (h : ∀ h' t' k, Fr h₀ L h' m → News h₀ L h' news → Q (.bytes a.toArray t') { s with heap := h', toks := k })
    (hs : subscripted slice false (.bytes (a ++ b).toArray t) (.ref s.heap.objs.size) = operate [.ref s.heap.objs.size, .bytes (a ++ b).toArray t] (getItem (.bytes (a ++ b).toArray t) (.ref s.heap.objs.size)) := by with_unfolding_all rfl)
    (ht : ∀ r, letTemporaryGo value (.bytes (a ++ b).toArray t) r = pure () := by intro _; with_unfolding_all rfl) :
    wpAny (model prog w) A (subscriptTail value slice (.bytes (a ++ b).toArray t) (.ref s.heap.objs.size)) Q E { s with heap := s.heap.push { cls := .type "slice", data := .fields #[.none, .int (a.length : Int) uj, .none] } } := by
  refine KBc.slice_K (lo := none) (hi := some (a.length : Int)) hF hN rfl (by constructor) (by constructor) (by rw [KBw.ints_length]; simp only [List.size_toArray]; omega) (fun h' t' k F N _ => ?_) hs ht
  have e : KBy.picked (a ++ b).toArray none (some (a.length : Int)) = a.toArray := by
    rw [KBc.picked_eq]
    have : clipAt (a ++ b).toArray.size (a.length : Int) = a.length := by rw [clipAt_nat]; simp
    simp only [Option.elim, this]
    simp
  rw [e]; exact h h' t' k F N
theorem by_from {Q : Value → Shared → Prop} {uj : Tok} (hF : Fr h₀ L s.heap m) (hN : News h₀ L s.heap news) (hz : (a ++ c :: b).length < 2 ^ 24) (h : ∀ h' t' k, Fr h₀ L h' m → News h₀ L h' news → Q (.bytes b.toArray t') { s with heap := h', toks := k })
    (hs : subscripted slice false (.bytes (a ++ c :: b).toArray t) (.ref s.heap.objs.size) = operate [.ref s.heap.objs.size, .bytes (a ++ c :: b).toArray t] (getItem (.bytes (a ++ c :: b).toArray t) (.ref s.heap.objs.size)) := by with_unfolding_all rfl)
    (ht : ∀ r, letTemporaryGo value (.bytes (a ++ c :: b).toArray t) r = pure () := by intro _; with_unfolding_all rfl) :
    wpAny (model prog w) A (subscriptTail value slice (.bytes (a ++ c :: b).toArray t) (.ref s.heap.objs.size)) Q E { s with heap := s.heap.push { cls := .type "slice", data := .fields #[.int ((a.length : Int) + 1) uj, .none, .none] } } := by
  refine KBc.slice_K (lo := some ((a.length : Int) + 1)) (hi := none) hF hN rfl (by constructor) (by constructor) (by rw [KBw.ints_length]; simp only [List.size_toArray]; omega) (fun h' t' k F N _ => ?_) hs ht
  have e : KBy.picked (a ++ c :: b).toArray (some ((a.length : Int) + 1)) none = b.toArray := by
    rw [KBc.picked_eq]
    have : clipAt (a ++ c :: b).toArray.size ((a.length : Int) + 1) = a.length + 1 := by rw [show ((a.length : Int) + 1) = ((a.length + 1 : Nat) : Int) by omega, clipAt_nat]; simp
    simp only [Option.elim, this]
    have e2 : a ++ c :: b = (a ++ [c]) ++ b := by simp
    rw [e2, List.drop_left' (by simp), List.take_of_length_le (by simp; omega)]
  rw [e]; exact h h' t' k F N
end
section
variable {A : Around} {E : Value → Shared → Prop} {s : Shared} {M : Model} {b : Array UInt8} {t : Tok} {pl : Sem Bool} {Q : Value × List Value → Shared → Prop}
theorem by_get_rfind (h : Q (.builtin "bytes.rfind", [.bytes b t]) s) : wpAny M A (getMethod (.bytes b t) "rfind" pl) Q E s := KBd.method_of (.bytes b t) (PySem.W.typeIs_bytes _ _ _) by_slot_rfind by_ty_rfind KBd.noRef h
theorem by_get_upper (h : Q (.builtin "bytes.upper", [.bytes b t]) s) : wpAny M A (getMethod (.bytes b t) "upper" pl) Q E s := KBd.method_of (.bytes b t) (PySem.W.typeIs_bytes _ _ _) by_slot_upper by_ty_upper KBd.noRef h
end
set_option maxHeartbeats 8000000 in
theorem pd_con (w : World) (hb : List UInt8) (ns : List Int) (t0 t1 : Tok) (hne : hb ≠ []) (h128 : ∀ c ∈ hb, c.toNat < 128) (hn : ∀ n ∈ ns, 0 ≤ n ∧ n < 2 ^ 20 - 1) (hl : ns.length ≤ 8) (hcs : hb.length ≤ 100) (hsum : (ns.map (· + 1)).sum ≤ 1000000) :
    PCon w 63 6 60 [.bytes (hb ++ 45 :: (giA hb.length 0 72 ns).toList).toArray t0, .str (Str.ofString "strict") t1] (fun _ => True)
      (fun _ _ v => ∃ t, v = .str (ls (insL ns 128 (-1) (hb.map (·.toNat)))) t) := by
  have hu := giA_up hb.length ns 0 72 fun n h => (hn n h).1
  have hz := giA_size hb.length ns 0 72 hn
  generalize (giA hb.length 0 72 ns) = db at *
  obtain ⟨db⟩ := db
  simp only at hu hz ⊢
  obtain ⟨hu, h45⟩ := hu
  have hz1 : db.length < 2 ^ 24 := by simp only [List.size_toArray] at hz; omega
  have hz2 : (hb ++ 45 :: db).length < 2 ^ 24 := by simp only [List.size_toArray] at hz; simp only [List.length_append, List.length_cons]; omega
  have hz3 : hb.length < 2 ^ 24 := by omega
  have g1 : db.map Builtin.Bytes.toUpper = giU (hb.map (·.toNat)).length 0 72 ns := by rw [hu]; simp
  have g4 : (hb.map (·.toNat)).length ≤ 100 := by simpa using hcs
  have g5 : ∀ c ∈ hb.map (·.toNat), c < 1114112 := by
    intro c hc
    obtain ⟨x, hx, rfl⟩ := List.mem_map.mp hc
    have := h128 x hx
    omega
  have g8 : ¬ ((hb.length : Int) = -1) := by omega
  have g7 : (db.map Builtin.Bytes.toUpper).length < 2 ^ 24 := by simpa using hz1
  unfold PCon
  k_fill
  w_top off
  intro dp un gd cn cs a ccd cl outer A₀ base h₀ L m mean mg mb s Q E B F X T hk _ hd hu hret
  walk_at "mine enterA"
  intro L' h' F' N' B' X' T'
  replace F' := Mine.Fr.congr (m' := fun y => if y = Str.ofString "errors" then some (.str (Str.ofString "strict") t1) else if y = Str.ofString "text" then some (.bytes (hb ++ 45 :: db).toArray t0) else none) F' lk2
  k_with_none
  k_with "call ref" => (k_here; (show wpAny _ _ (call (Value.ref 21) [Value.int _ _, Value.int _ _]) _ _ _); k_dflt (refine' pcon_val (T_con _ _ _ _ _) ?k1 ?k2 ?k3 ?k4 ?k5 ?kK trivial ?kd ?ku ?_; walk_at "mine use"; k_whole); intro _ _ _ _ _ _; (try dsimp only); (try k_sweep))
  k_with "call ref" => (k_here; (show wpAny _ _ (call (Value.ref 35) [Value.int _ _, Value.bool _, Value.int _ _]) _ _ _); k_dflt (refine' pcon_val (adapt_con _ _ _ _ _ _ ?g1 ?g2 ?g3) ?k1 ?k2 ?k3 ?k4 ?k5 ?kK trivial ?kd ?ku ?_; (case g1 => omega); (case g2 => first | omega | (simp only [List.length_append, List.length_cons, List.length_nil, List.length_take, List.length_drop]; omega)); (case g3 => first | omega | (simp only [List.length_append, List.length_cons, List.length_nil, List.length_take, List.length_drop]; omega)); walk_at "mine use"; k_whole); intro _ _ _ _ _ _; (try dsimp only); (try k_sweep))
  k_with "call builtin:len" => ((with_reducible show wpAny _ _ (call (Value.builtin "len") [Value.str (ls _) _]) _ _ _); (refine ls_callLen (by first | omega | (simp only [List.length_append, List.length_cons, List.length_nil, List.length_take, List.length_drop]; omega)) ?_))
  k_with "call builtin:chr" => ((with_reducible show wpAny _ _ (call (Value.builtin "chr") [Value.int _ _]) _ _ _); (refine ls_chr (by omega) (by omega) ?_); intro _ _)
  k_with "call builtin:ord" => ((with_reducible show wpAny _ _ (call (Value.builtin "ord") [Value.str (ls [_]) _]) _ _ _); (refine ls_ord ?_); intro _ _)
  k_with "binaryOp Add str str" => ((with_reducible show wpAny _ _ (binaryOp Operator.Add (Value.str (ls _) _) (Value.str (ls _) _)) _ _ _); (refine ls_add (by first | omega | (simp only [List.length_append, List.length_cons, List.length_nil, List.length_take, List.length_drop]; omega)) ?_); intro _ _)
  k_with "compareOp Eq str str" => ((with_reducible show wpAny _ _ (compareOp CmpOp.Eq (Value.str (ls _) _) (Value.str (ls _) _)) _ _ _); (refine ls_eq ?_))
  k_with "compareOp NotEq str str" => ((with_reducible show wpAny _ _ (compareOp CmpOp.NotEq (Value.str (ls _) _) (Value.str (ls _) _)) _ _ _); (refine ls_ne ?_))
  k_with "subscriptTail Name Slice str ref" => ((with_reducible show wpAny _ _ (subscriptTail _ (Expr.Slice none (some _) none _) (Value.str (ls _) _) _) _ _ _); (with_reducible rename Fr _ _ _ _ => Fw); (with_reducible rename News _ _ _ _ => Nw); (refine ls_to (s := ⟨_, _, _, _, _⟩) Fw Nw (by omega) (by omega) (by omega) ?_); intro _ _ _ _ _)
  k_with "subscriptTail Name Slice str ref" => ((with_reducible show wpAny _ _ (subscriptTail _ (Expr.Slice (some _) none none _) (Value.str (ls _) _) _) _ _ _); (with_reducible rename Fr _ _ _ _ => Fw); (with_reducible rename News _ _ _ _ => Nw); (refine ls_from (s := ⟨_, _, _, _, _⟩) Fw Nw (by omega) (by omega) (by omega) ?_); intro _ _ _ _ _)
  k_with "subscriptTail" => ((with_reducible show wpAny _ _ (subscriptTail _ _ (Value.str (ls (_ :: _)) _) (Value.int 0 _)) _ _ _); (refine ls_item0 ?_); intro _ _)
  k_with "getMethod bytes" => (k_here; (with_reducible refine by_get_rfind ?_))
  k_with "getMethod bytes" => (k_here; (with_reducible refine by_get_upper ?_))
  k_with "call builtin:bytes.rfind" => (k_here; (refine by_callRfind (by assumption) ?_); intro _ _)
  k_with "call builtin:bytes.upper" => (k_here; (refine by_callUpper (by assumption) ?_); intro _ _)
  k_with "call type:str" => (k_here; (with_reducible show wpAny _ _ (call (Value.type "str") [Value.bytes _ _, Value.str _ _, Value.str _ _]) _ _ _); (refine by_ascii (by assumption) (by assumption) (by assumption) ?_); intro _ _)
  k_with "subscriptTail Name Slice bytes ref" => (k_here; (with_reducible show wpAny _ _ (subscriptTail _ (Expr.Slice none (some _) none _) (Value.bytes _ _) _) _ _ _); (with_reducible rename Fr _ _ _ _ => F'); (with_reducible rename News _ _ _ _ => N'); (refine by_to (s := ⟨_, _, _, _, _⟩) F' N' (by assumption) ?_); intro _ _ _ _ _)
  k_with "subscriptTail Name Slice bytes ref" => (k_here; (with_reducible show wpAny _ _ (subscriptTail _ (Expr.Slice (some _) none none _) (Value.bytes _ _) _) _ _ _); (with_reducible rename Fr _ _ _ _ => F'); (with_reducible rename News _ _ _ _ => N'); (refine by_from (s := ⟨_, _, _, _, _⟩) F' N' (by assumption) ?_); intro _ _ _ _ _)
  k_with "call ref" => (k_here; (show wpAny _ _ (call (Value.ref 56) _) _ _ _); k_dflt (refine' pcon_val (ins_con _ _ _ _ _ _ _ ?g1 ?g2 ?g3 ?g4 ?g5 ?g6 ?g7) ?k1 ?k2 ?k3 ?k4 ?k5 ?kK trivial ?kd ?ku ?_; (case g1 => assumption); (case g2 => assumption); (case g3 => assumption); (case g4 => assumption); (case g5 => assumption); (case g6 => assumption); (case g7 => assumption); walk_at "mine use"; k_whole); intro _ _ _ _ _ _; (try dsimp only); (try k_sweep))
  refine wpAny_ret ?_
  intro Qf hQf
  refine wpAny_tk ?_
  intro tk
  try k_fold
  k_steps
  · exfalso; simp at *
  rename Fr s.heap L' _ _ => F9
  exact hQf _ _ (hret _ _ _ (Fr.keep F9) ⟨_, rfl⟩)

/-! part PLN -/
theorem ls_joined0 (g : Int → Nat) : ∀ l : List Int, Str.join (Str.ofString "") (l.map fun a => (⟨#[g a]⟩ : Str)) = ls (l.map g)
  | [] => rfl
  | [a] => rfl
  | a :: b :: l => by
    have ih := ls_joined0 g (b :: l)
    show (⟨#[g a]⟩ : Str) ++ Str.ofString "" ++ Str.join (Str.ofString "") ((b :: l).map fun a => (⟨#[g a]⟩ : Str)) = _
    rw [ih, show (⟨#[g a]⟩ : Str) = ls [g a] from rfl, show Str.ofString "" = ls [] from rfl, ls_app, ls_app]
    rfl
theorem ls_joined (g : Int → Nat) (l : List Int) : Txt.join (Str.ofString "") (l.map fun a => (⟨#[g a]⟩ : Str)) = ls (l.map g) := by
  show Builtin.Str.glued (Str.ofString "") _ = _
  rw [StrLaws.glued_eq_join, ls_joined0]
theorem ls_sum (g : Int → Nat) : ∀ l : List Int, ((l.map fun a => (⟨#[g a]⟩ : Str)).map (·.length)).sum = l.length
  | [] => rfl
  | a :: l => by
    have ih := ls_sum g l
    simp only [List.map_cons, List.sum_cons, List.length_cons]
    rw [ih]
    show 1 + l.length = _
    omega
section
variable {prog : Program} {w : World} {A : Around} {E : Value → Shared → Prop} {s : Shared}
theorem ls_join {Q : Value → Shared → Prop} {g : Int → Nat} {l : List Int} {ys : List Value} {D : Addr} {t : Tok} (hl : s.heap.IsList D ys.toArray) (hc : CarriedAll ys (l.map fun a => PyData.str ⟨#[g a]⟩)) (hz : l.length ≤ 1000)
    (h : ∀ t' k, Q (.str (ls (l.map g)) t') { s with toks := k }) : wpAny (model prog w) A (call (.builtin "str.join") [.str (Str.ofString "") t, .ref D]) Q E s := by
  refine join_listC (ys := l.map fun a => (⟨#[g a]⟩ : Str)) hl (StrsAre.of_carried (by rw [List.map_map]; exact hc)) (by decide) (by rw [ls_sum, List.length_map]; omega) fun t' k => ?_
  rw [ls_joined]
  exact h t' k
end
set_option maxHeartbeats 8000000 in
theorem plain_con (w : World) (l : Addr) (vs : List Value) (ns : List Int) (hi : IntsAre vs ns) (hl : ns.length ≤ 3) :
    PCon w 68 6 60 [.ref l] (fun h => h.IsList l vs.toArray)
      (fun _ _ v => ∃ t, v = .str (ls (98 :: (ns.filter (fun n => Int.fmod n 4 == 0)).map (fun n => (Int.fmod (Int.fdiv n 4) 128).toNat))) t) := by
  unfold PCon
  k_fill
  w_top off
  intro dp un gd cn cs a ccd cl outer A₀ base h₀ L m mean mg mb s Q E B F X T hk hL hd hu hret
  walk_at "mine enterA"
  intro L' h' F' N' B' X' T'
  replace F' := Mine.Fr.congr (m' := fun y => if y = Str.ofString "cells" then some (.ref l) else none) F' lk1
  k_with_none
  k_with "call ref" => (k_here; (show wpAny _ _ (call (Value.ref 21) [Value.int _ _, Value.int _ _]) _ _ _); k_dflt (refine' pcon_val (T_con _ _ _ _ _) ?k1 ?k2 ?k3 ?k4 ?k5 ?kK trivial ?kd ?ku ?_; walk_at "mine use"; k_whole); intro _ _ _ _ _ _; (try dsimp only); (try k_sweep))
  k_with "call ref" => (k_here; (show wpAny _ _ (call (Value.ref 35) [Value.int _ _, Value.bool _, Value.int _ _]) _ _ _); k_dflt (refine' pcon_val (adapt_con _ _ _ _ _ _ ?g1 ?g2 ?g3) ?k1 ?k2 ?k3 ?k4 ?k5 ?kK trivial ?kd ?ku ?_; (case g1 => omega); (case g2 => first | omega | (simp only [List.length_append, List.length_cons, List.length_nil, List.length_take, List.length_drop]; omega)); (case g3 => first | omega | (simp only [List.length_append, List.length_cons, List.length_nil, List.length_take, List.length_drop]; omega)); walk_at "mine use"; k_whole); intro _ _ _ _ _ _; (try dsimp only); (try k_sweep))
  k_with "call builtin:len" => ((with_reducible show wpAny _ _ (call (Value.builtin "len") [Value.str (ls _) _]) _ _ _); (refine ls_callLen (by first | omega | (simp only [List.length_append, List.length_cons, List.length_nil, List.length_take, List.length_drop]; omega)) ?_))
  k_with "call builtin:chr" => ((with_reducible show wpAny _ _ (call (Value.builtin "chr") [Value.int _ _]) _ _ _); (refine ls_chr (by omega) (by omega) ?_); intro _ _)
  k_with "call builtin:ord" => ((with_reducible show wpAny _ _ (call (Value.builtin "ord") [Value.str (ls [_]) _]) _ _ _); (refine ls_ord ?_); intro _ _)
  k_with "binaryOp Add str str" => ((with_reducible show wpAny _ _ (binaryOp Operator.Add (Value.str (ls _) _) (Value.str (ls _) _)) _ _ _); (refine ls_add (by first | omega | (simp only [List.length_append, List.length_cons, List.length_nil, List.length_take, List.length_drop]; omega)) ?_); intro _ _)
  k_with "compareOp Eq str str" => ((with_reducible show wpAny _ _ (compareOp CmpOp.Eq (Value.str (ls _) _) (Value.str (ls _) _)) _ _ _); (refine ls_eq ?_))
  k_with "compareOp NotEq str str" => ((with_reducible show wpAny _ _ (compareOp CmpOp.NotEq (Value.str (ls _) _) (Value.str (ls _) _)) _ _ _); (refine ls_ne ?_))
  k_with "subscriptTail Name Slice str ref" => ((with_reducible show wpAny _ _ (subscriptTail _ (Expr.Slice none (some _) none _) (Value.str (ls _) _) _) _ _ _); (with_reducible rename Fr _ _ _ _ => Fw); (with_reducible rename News _ _ _ _ => Nw); (refine ls_to (s := ⟨_, _, _, _, _⟩) Fw Nw (by omega) (by omega) (by omega) ?_); intro _ _ _ _ _)
  k_with "subscriptTail Name Slice str ref" => ((with_reducible show wpAny _ _ (subscriptTail _ (Expr.Slice (some _) none none _) (Value.str (ls _) _) _) _ _ _); (with_reducible rename Fr _ _ _ _ => Fw); (with_reducible rename News _ _ _ _ => Nw); (refine ls_from (s := ⟨_, _, _, _, _⟩) Fw Nw (by omega) (by omega) (by omega) ?_); intro _ _ _ _ _)
  k_with "subscriptTail" => ((with_reducible show wpAny _ _ (subscriptTail _ _ (Value.str (ls (_ :: _)) _) (Value.int 0 _)) _ _ _); (refine ls_item0 ?_); intro _ _)
  k_with "call builtin:str.join" => (k_here; (with_reducible rename CarriedAll _ (List.map _ _) => ktC); (refine ls_join (by assumption) ktC (Nat.le_trans (List.length_filter_le _ _) (by omega)) ?_); intro _ _)
  refine wpAny_ret ?_
  intro Qf hQf
  refine wpAny_tk ?_
  intro tk
  try k_fold
  k_steps
  rename Fr s.heap L' _ _ => F9
  have hfl := List.length_filter_le (fun a => Int.fmod a 4 == 0) ns
  refine ls_add (a := [98]) (by simp only [List.length_cons, List.length_nil, List.length_map]; omega) fun t9 k9 => ?_
  exact hQf _ _ (hret _ _ _ (Fr.keep F9) ⟨_, rfl⟩)

/-! part SC -/
/-- a sign by its number -/
def sgK : ItemKind Nat := ⟨fun c v => ∃ u, v = .str (ls [c]) u, fun v => match v with | .str a _ => a.cps[0]? | _ => none, fun _ _ h => by obtain ⟨t, rfl⟩ := h; rfl⟩
section
variable {prog : Program} {w : World} {A : Around} {E : Value → Shared → Prop} {s : Shared} {h₀ : Heap} {L : Addr} {m : Str → Option Value} {env : Env}
theorem sc_ListComp {elt iter : Expr} {x : Str} {px : Pos} {ifs : List Expr} {scope : Scope} {cl : List (Str × Addr)} {pos : Pos} {Q : Value → Shared → Prop} {pz : Nat → Bool} {d : Nat → PyData}
    (hh : A.handled = none) (hclos : closureFor scope env = pure cl) (hcell : ∀ y ∈ scope.names, y.2 ≠ .cell) (hkind : scope.kind = .function)
    (hnames : ∀ y ∈ scope.names, y.2 = .local → scope.names.lookup y.1 = some .local) (hx : scope.names.lookup x = some .local)
    (h : wpAny (model prog w) A (eval iter env) (fun xv s₁ => ∃ news : List (Addr × Obj), ∃ cs t, xv = .str (ls cs) t ∧ cs.length ≤ 1000 ∧ Fr h₀ L s₁.heap m ∧ News h₀ L s₁.heap news ∧
      (∀ C c u s₂ m₂ E', s₁.heap.objs.size ≤ C → c ∈ cs → s₂.heap.Ns (compEnvC scope cl C env).locals m₂ → m₂ x = some (.str (ls [c]) u) → (∀ b o, s₁.heap.get? b = some o → s₂.heap.get? b = some o) →
        wpAny (model prog w) A (forIn ifs true fun c r => if r = true then do let ok ← isTrue c (compEnvC scope cl C env) (eval c (compEnvC scope cl C env)); pure (ForInStep.yield ok) else pure (ForInStep.yield r))
          (fun ok s₃ => ok = pz c ∧ Keeps s₂ s₃) E' s₂) ∧
      (∀ C c u s₂ m₂ E', s₁.heap.objs.size ≤ C → c ∈ cs → s₂.heap.Ns (compEnvC scope cl C env).locals m₂ → m₂ x = some (.str (ls [c]) u) → (∀ b o, s₁.heap.get? b = some o → s₂.heap.get? b = some o) →
        wpAny (model prog w) A (eval elt (compEnvC scope cl C env)) (fun y s₃ => Carried y (d c) ∧ Keeps s₂ s₃) E' s₂) ∧
      (∀ D (ys : List Value) h' tk, Fr h₀ L h' m → News h₀ L h' news → h₀.get? D = none → h'.IsList D ys.toArray → NewPlain h' news D ys.toArray → CarriedAll ys ((cs.filter pz).map d) → Q (.ref D) { s₁ with heap := h', toks := tk })) E s)
    (hs : ∀ x, foldedSetIterable iter env x = pure x) :
    wpAny (model prog w) A (eval (.ListComp elt [⟨.Name x px, iter, ifs, 0⟩] scope pos) env) Q E s := by
  refine wpAny_ListComp_free (sgK.lift pz) (fun v r => ∃ a, sgK.is a v ∧ Carried r (d a)) hclos hcell hkind hnames hx (wpAny_mono h (fun xv s₁ h₁ => ?_) fun _ _ e => e) hs
  obtain ⟨news, cs, t, rfl, hsz, F, N, htests, helt, hQ⟩ := h₁
  refine wpAny_pyIter_str fun o St W hst => ?_
  have up : ∀ (h' : Heap), (∀ b o', b ∉ [s₁.heap.objs.size] → (s₁.heap.push o).get? b = some o' → h'.get? b = some o') → ∀ b o', s₁.heap.get? b = some o' → h'.get? b = some o' :=
    fun h' hk b o' e => hk b o' (old_not_new e) (Heap.get?_push_of_some _ e)
  have at' : ∀ i v, SignAt (ls cs) i v → ∃ c u, cs[i]? = some c ∧ v = .str (ls [c]) u := fun i v hv => by
    obtain ⟨c, u, hc, rfl⟩ := hv
    exact ⟨c, u, by simpa [ls] using hc, rfl⟩
  refine ⟨s₁.heap.objs.size, [s₁.heap.objs.size], [s₁.heap.objs.size], (ls cs).cps.size, SignAt (ls cs), St, rfl, W A hh, (by rw [sizeLine_eq]; simp [ls]; omega), hst, ?_, ⟨?_, ?_⟩, ?_⟩
  · intro b hb
    show b < (s₁.heap.push o).objs.size
    rw [Heap.size_push, List.mem_singleton.mp hb]
    exact Nat.lt_succ_self _
  · intro C i v s₃ m₃ E' hC hP hn hm hk _
    obtain ⟨c, u, hc, rfl⟩ := at' i v hP
    have ha : sgK.is c (.str (ls [c]) u) := ⟨u, rfl⟩
    rw [ItemKind.lift_is ha]
    exact htests C c u s₃ m₃ E' (Nat.le_of_succ_le (by simpa [Heap.size_push] using hC)) (List.mem_of_getElem? hc) hn hm (up s₃.heap hk)
  · intro C i v s₃ m₃ E' hC hP hp hn hm hk _
    obtain ⟨c, u, hc, rfl⟩ := at' i v hP
    have ha : sgK.is c (.str (ls [c]) u) := ⟨u, rfl⟩
    exact wpAny_mono (helt C c u s₃ m₃ E' (Nat.le_of_succ_le (by simpa [Heap.size_push] using hC)) (List.mem_of_getElem? hc) hn hm (up s₃.heap hk)) (fun y s₄ h₄ => ⟨⟨c, ha, h₄.1⟩, h₄.2⟩) fun _ _ e => e
  · intro D h' tk ys vs hnew hlD hplD hlen hP hF hk
    have hi : AreOf sgK vs cs := areOf_of_get vs cs (by rw [hlen]; simp [ls]) fun j v hv => by
      obtain ⟨c, u, hc, rfl⟩ := at' j v (hP j v hv)
      exact ⟨c, hc, u, rfl⟩
    refine hQ D ys.toList h' tk (F.keeps (up h' hk)) (N.grown (up h' hk)) ?_ (by rw [Array.toArray_toList]; exact hlD) ⟨by rw [Array.toArray_toList]; exact hplD, fun p hp e => by rw [← e, Heap.get?_push_of_some _ (N p hp).1] at hnew; cases hnew⟩ (hi.paired pz d _ hF)
    cases e : h₀.get? D with
    | none => rfl
    | some o' => rw [Heap.get?_push_of_some _ (F.keep _ _ e)] at hnew; cases hnew
end

local macro_rules | `(tactic| walk_at "eval ListComp") => `(tactic| ((with_reducible show wpAny _ _ (eval (Expr.ListComp (Expr.Call _ [Expr.Name (Str.ofString "sign") _] _ _) _ _ _) _) _ _ _); (with_reducible apply sc_ListComp); (case hh => with_unfolding_all rfl); (case hclos => with_unfolding_all rfl); (case hcell => decide); (case hkind => with_unfolding_all rfl); (case hnames => decide); (case hx => with_unfolding_all rfl); (case hs => intro _; with_unfolding_all rfl); (case' h => with_reducible refine wpAny_compPack ?_)))
local macro_rules | `(tactic| walk_at "CompPack") => `(tactic| ((refine CompPack.intro ?_); (rename Fr _ _ _ _ => F'); (rename News _ _ _ _ => N'); with_unfolding_all refine ⟨_, _, _, rfl, (by omega), F', N', ?_, ?_, ?_⟩ <;> (first | (intros; (rename Heap.Ns _ _ _ => hn'); (rename (∀ b o, Heap.get? _ b = some o → Heap.get? _ b = some o) => hk''); (rename (Array.size _ ≤ _) => hC'); (have Fc' := frInComp hn' hk'' hC'); (with_reducible refine wpAny_leafK ?_); (try (first | ((with_reducible refine markB ?_); intro _) | ((with_reducible refine markD ?_); intro _)))) | (intros; (rename CarriedAll _ _ => Y')) | skip)))
/-! part ROW -/
/-- a list's iterator stands at the i-th item; beside it one object more -/
def LiAt (h₀ : Heap) (L r it l : Addr) (ob : Obj) (h : Heap) (m : Str → Option Value) (i : Nat) : Prop :=
  Fr h₀ L h m ∧ ∃ oi, News h₀ L h [(r, ob), (it, oi)] ∧ oi.cls = .type "list_iterator" ∧ oi.data = .fields #[.ref l, .int i 0]
section
variable {prog : Program} {w : World} {A : Around} {E : Value → Shared → Prop} {s : Shared} {h₀ : Heap} {L r it l : Addr} {ob : Obj} {m : Str → Option Value} {i : Nat} {items : Array Value}
theorem li_end {Q : Option Value → Shared → Prop} (hh : A.handled = none) (hA : LiAt h₀ L r it l ob s.heap m i) (hl : h₀.IsList l items) (hd : r ≠ it) (hx : items[i]? = none)
    (h : ∀ h', Fr h₀ L h' m → News h₀ L h' [(r, ob)] → Q none { s with heap := h' }) : wpAny (model prog w) A (pyNext (.ref it)) Q E s := by
  obtain ⟨F, oi, N, c1, c2⟩ := hA
  have n0 := N _ (.head _)
  have n1 := N _ (.tail _ (.head _))
  refine wpAny_pyNext_list_end hh ⟨oi, n1.1, c1, c2⟩ (hl.at fun o e => F.keep _ _ e) hx fun h' k => ?_
  refine h h' (Fr.but F [it] (fun b hb => ?_) fun b o hb q => k b o (fun z => hb (by rw [z]; exact .head _)) q) fun p hp => ?_
  · rw [List.mem_singleton.mp hb]
    exact ⟨n1.2.2, n1.2.1⟩
  · rw [List.mem_singleton.mp hp]
    exact ⟨k _ _ hd n0.1, n0.2⟩
theorem li_item {Q : Option Value → Shared → Prop} {x : Value} (hA : LiAt h₀ L r it l ob s.heap m i) (hl : h₀.IsList l items) (hd : r ≠ it) (hx : items[i]? = some x)
    (h : ∀ h', LiAt h₀ L r it l ob h' m (i + 1) → Q (some x) { s with heap := h' }) : wpAny (model prog w) A (pyNext (.ref it)) Q E s := by
  obtain ⟨F, oi, N, c1, c2⟩ := hA
  have n0 := N _ (.head _)
  have n1 := N _ (.tail _ (.head _))
  refine wpAny_pyNext_list_item ⟨oi, n1.1, c1, c2⟩ (hl.at fun o e => F.keep _ _ e) hx fun h' hit k => ?_
  replace k := Heap.SameBut.extBut k
  obtain ⟨oj, hj1, hj2, hj3⟩ := hit
  refine h h' ⟨Fr.but F [it] (fun b hb => ?_) fun b o hb q => k b o (fun z => hb (by rw [z]; exact .head _)) q, oj, fun p hp => ?_, hj2, hj3⟩
  · rw [List.mem_singleton.mp hb]
    exact ⟨n1.2.2, n1.2.1⟩
  · rcases List.mem_cons.mp hp with rfl | hp
    · exact ⟨k _ _ hd n0.1, n0.2⟩
    · rw [List.mem_singleton.mp hp]
      exact ⟨hj1, n1.2⟩
theorem li_set {name : Str} {scope : Scope} {a : Addr} {cd : Value} {x : Str} {px : Pos} {v : Value} {Q : Unit → Shared → Prop} (hA : LiAt h₀ L r it l ob s.heap m i) (hk : scope.kind = .function) (hxk : (envOf name scope L a cd).kindOf x = some .local)
    (h : ∀ h' k, LiAt h₀ L r it l ob h' (fun y => if y = x then some v else m y) i → Q () { s with heap := h', toks := k }) : wpAny (model prog w) A (assign (.Name x px) (envOf name scope L a cd) v) Q E s := by
  obtain ⟨F, oi, N, c1, c2⟩ := hA
  exact wpAny_assign_Name (stN F N (fun h₄ F₄ N₄ => h _ _ ⟨F₄, oi, N₄, c1, c2⟩) hk hxk)
theorem News.sub2 {h : Heap} {p q : Addr × Obj} (N : News h₀ L h [p, q]) : News h₀ L h [q, p] := fun x hx => by
  rcases List.mem_cons.mp hx with rfl | hx
  · exact N _ (.tail _ (.head _))
  · rw [List.mem_singleton.mp hx]; exact N _ (.head _)
/-- a loop over a list, beside one object that may change -/
theorem hForL {name : Str} {scope : Scope} {a : Addr} {cd : Value} {x : Str} {px pos : Pos} {iter : Expr} {body : List Stmt} {Q : Flow → Shared → Prop} (hh : A.handled = none) (hk : scope.kind = .function) (hxk : (envOf name scope L a cd).kindOf x = some .local)
    (F : Fr h₀ L s.heap m) (N : News h₀ L s.heap [(r, ob)]) (hl : h₀.IsList l items)
    (hev : ∀ Q' : Value → Shared → Prop, Q' (.ref l) s → wpAny (model prog w) A (eval iter (envOf name scope L a cd)) Q' E s)
    (J : Nat → Obj → (Str → Option Value) → Prop) (h0 : J 0 ob m)
    (step : ∀ i v it ob m h tk, items[i]? = some v → J i ob m → r ≠ it → LiAt h₀ L r it l ob h (fun y => if y = x then some v else m y) (i + 1) →
      wpAny (model prog w) A (execs body (envOf name scope L a cd)) (fun f s₃ => match f with
        | .next | .cont => Hold (∃ ob' m' h' tk', s₃ = { s with heap := h', toks := tk' } ∧ LiAt h₀ L r it l ob' h' m' (i + 1) ∧ J (i + 1) ob' m')
        | .brk => Q .next s₃
        | .ret v => Q (.ret v) s₃) E { s with heap := h, toks := tk })
    (fin : ∀ ob m h tk, J items.size ob m → Fr h₀ L h m → News h₀ L h [(r, ob)] → Q .next { s with heap := h, toks := tk })
    (hs : ∀ x, foldedSetIterable iter (envOf name scope L a cd) x = pure x := by intro _; rfl)
    (hE : PassesOwn (model prog w) A (envOf name scope L a cd) E) :
    wpAny (model prog w) A (exec (.For (.Name x px) iter body [] pos) (envOf name scope L a cd)) Q E s := by
  refine wpAny_For (hev _ (wpAny_pyIter_list (hl.at fun o e => F.keep _ _ e) ?_)) hs
  have n0 := N _ (.head _)
  have hr := Heap.lt_size n0.1
  have k0 : Kept s.heap (s.heap.push { cls := .type "list_iterator", data := .fields #[.ref l, .int 0 0] }) := fun b o e => Heap.get?_push_of_some _ e
  refine codeAny_forLoop (R := fun r s' => match r with | .ok f => Q f s' | .error e => cameBackBy (model prog w) A (envOf name scope L a cd) E e s')
    (fun n s' => ∃ i ob m h tk, s' = { s with heap := h, toks := tk } ∧ LiAt h₀ L r s.heap.objs.size l ob h m i ∧ J i ob m ∧ i ≤ items.size ∧ n = items.size + 1 - i) ?_ (items.size + 1)
    ⟨0, ob, m, _, _, rfl, ⟨Fr.kept F k0, _, News.sub2 (News.made F N k0 (Heap.get?_push_size _ rfl)), rfl, rfl⟩, h0, Nat.zero_le _, rfl⟩
  rintro n s' ⟨i, ob, m, h, tk, rfl, hA, hJ, hi, rfl⟩
  refine wpAny_passesOwn hE ?_
  cases hv : items[i]? with
  | none =>
    have hsz : i = items.size := Nat.le_antisymm hi (by simpa using hv)
    refine li_end hh hA hl (Nat.ne_of_lt hr) hv fun h' F' N' => wpAny_execs_nil ?_
    exact fin ob m h' tk (hsz ▸ hJ) F' N'
  | some v =>
    have hlt : i < items.size := (Array.getElem?_eq_some_iff.mp hv).1
    refine li_item hA hl (Nat.ne_of_lt hr) hv fun h' hA' => ?_
    refine wpAny_passesOwn hE (li_set hA' hk hxk fun h'' k hA'' => ?_)
    refine wpAny_passesOwn hE (wpAny_mono (step i v _ ob m _ _ hv hJ (Nat.ne_of_lt hr) hA'') (fun f s₃ h₃ => ?_) fun _ _ e => e)
    cases f with
    | next =>
      obtain ⟨ob', m', h5, tk5, e, hA5, hJ5⟩ := h₃
      exact ⟨items.size + 1 - (i + 1), by omega, i + 1, ob', m', h5, tk5, e, hA5, hJ5, hlt, rfl⟩
    | cont =>
      obtain ⟨ob', m', h5, tk5, e, hA5, hJ5⟩ := h₃
      exact ⟨items.size + 1 - (i + 1), by omega, i + 1, ob', m', h5, tk5, e, hA5, hJ5, hlt, rfl⟩
    | brk => exact h₃
    | ret v => exact h₃
end
theorem News.tl {h₀ h : Heap} {L : Addr} {p : Addr × Obj} {l : List (Addr × Obj)} (N : News h₀ L h (p :: l)) : News h₀ L h l := fun q hq => N q (.tail _ hq)
/-- what a number that is no multiple of 4 gives -/
def cellOf (n : Int) : Int := Int.fmod (Int.fdiv n 4) (if Int.fmod n 4 = 1 then 4 else if Int.fmod n 4 = 2 then 60 else 9000)
def rowOf (ns : List Int) : List Int := (ns.filter (fun n => decide (0 < Int.fmod n 4))).map cellOf
def rwM (u1 : Option Value) (l r : Addr) (y : Str) : Option Value :=
  if y = Str.ofString "cell" then u1 else if y = Str.ofString "row" then some (.ref r) else if y = Str.ofString "cells" then some (.ref l) else none
theorem rowOf_len (ns : List Int) : (rowOf ns).length ≤ ns.length := by
  unfold rowOf
  rw [List.length_map]
  exact List.length_filter_le _ _
theorem rwM_set {u1 : Option Value} {l r : Addr} {v : Value} : (fun y => if y = Str.ofString "cell" then some v else rwM u1 l r y) = rwM (some v) l r := by
  funext y
  unfold rwM
  split <;> rfl
theorem rowOf_take {ns : List Int} {i : Nat} {k : Int} (h : ns[i]? = some k) : rowOf (ns.take (i + 1)) = rowOf (ns.take i) ++ (if 0 < Int.fmod k 4 then [cellOf k] else []) := by
  unfold rowOf
  rw [List.take_add_one, h, List.filter_append, List.map_append]
  congr 1
  by_cases hp : 0 < Int.fmod k 4 <;> simp [hp]
theorem IntsAre.snoc {y : Int} {t : Tok} : ∀ {vs : List Value} {ys : List Int}, IntsAre vs ys → IntsAre (vs ++ [.int y t]) (ys ++ [y])
  | _, _, .nil => .cons y t .nil
  | _, _, .cons z u r => .cons z u (IntsAre.snoc r)
theorem IntsAre.app {us : List Value} {xs : List Int} (h : IntsAre us xs) : ∀ {vs : List Value} {ys : List Int}, IntsAre vs ys → IntsAre (vs ++ us) (ys ++ xs)
  | _, _, .nil => h
  | _, _, .cons z u r => .cons z u (IntsAre.app h r)
set_option maxHeartbeats 8000000 in
theorem row_con (w : World) (l : Addr) (vs : List Value) (ns : List Int) (hi : IntsAre vs ns) (hl : ns.length ≤ 3) :
    PCon w 75 6 60 [.ref l] (fun h => h.IsList l vs.toArray)
      (fun h h' v => ∃ a us, v = .ref a ∧ h.get? a = none ∧ h'.IsList a (List.toArray us) ∧ IntsAre us (rowOf ns ++ [30, 0])) := by
  unfold PCon
  k_fill
  w_top off
  k_with_none
  intro dp un gd cn cs a ccd cl outer A₀ base h₀ L m mean mg mb s Q E B F X T hk hL hd hu hret
  walk_at "mine enterA"
  intro L' h' F' N' B' X' T'
  replace F' := Mine.Fr.congr (m' := fun y => if y = Str.ofString "cells" then some (.ref l) else none) F' lk1
  k_with_none
  k_with "call ref" => (k_here; (show wpAny _ _ (call (Value.ref 21) [Value.int _ _, Value.int _ _]) _ _ _); k_dflt (refine' pcon_val (T_con _ _ _ _ _) ?k1 ?k2 ?k3 ?k4 ?k5 ?kK trivial ?kd ?ku ?_; walk_at "mine use"; k_whole); intro _ _ _ _ _ _; (try dsimp only); (try k_sweep))
  k_with "call ref" => (k_here; (show wpAny _ _ (call (Value.ref 35) [Value.int _ _, Value.bool _, Value.int _ _]) _ _ _); k_dflt (refine' pcon_val (adapt_con _ _ _ _ _ _ ?g1 ?g2 ?g3) ?k1 ?k2 ?k3 ?k4 ?k5 ?kK trivial ?kd ?ku ?_; (case g1 => omega); (case g2 => first | omega | (simp only [List.length_append, List.length_cons, List.length_nil, List.length_take, List.length_drop]; omega)); (case g3 => first | omega | (simp only [List.length_append, List.length_cons, List.length_nil, List.length_take, List.length_drop]; omega)); walk_at "mine use"; k_whole); intro _ _ _ _ _ _; (try dsimp only); (try k_sweep))
  k_with "call builtin:len" => ((with_reducible show wpAny _ _ (call (Value.builtin "len") [Value.str (ls _) _]) _ _ _); (refine ls_callLen (by first | omega | (simp only [List.length_append, List.length_cons, List.length_nil, List.length_take, List.length_drop]; omega)) ?_))
  k_with "call builtin:chr" => ((with_reducible show wpAny _ _ (call (Value.builtin "chr") [Value.int _ _]) _ _ _); (refine ls_chr (by omega) (by omega) ?_); intro _ _)
  k_with "call builtin:ord" => ((with_reducible show wpAny _ _ (call (Value.builtin "ord") [Value.str (ls [_]) _]) _ _ _); (refine ls_ord ?_); intro _ _)
  k_with "binaryOp Add str str" => ((with_reducible show wpAny _ _ (binaryOp Operator.Add (Value.str (ls _) _) (Value.str (ls _) _)) _ _ _); (refine ls_add (by first | omega | (simp only [List.length_append, List.length_cons, List.length_nil, List.length_take, List.length_drop]; omega)) ?_); intro _ _)
  k_with "compareOp Eq str str" => ((with_reducible show wpAny _ _ (compareOp CmpOp.Eq (Value.str (ls _) _) (Value.str (ls _) _)) _ _ _); (refine ls_eq ?_))
  k_with "compareOp NotEq str str" => ((with_reducible show wpAny _ _ (compareOp CmpOp.NotEq (Value.str (ls _) _) (Value.str (ls _) _)) _ _ _); (refine ls_ne ?_))
  k_with "subscriptTail Name Slice str ref" => ((with_reducible show wpAny _ _ (subscriptTail _ (Expr.Slice none (some _) none _) (Value.str (ls _) _) _) _ _ _); (with_reducible rename Fr _ _ _ _ => Fw); (with_reducible rename News _ _ _ _ => Nw); (refine ls_to (s := ⟨_, _, _, _, _⟩) Fw Nw (by omega) (by omega) (by omega) ?_); intro _ _ _ _ _)
  k_with "subscriptTail Name Slice str ref" => ((with_reducible show wpAny _ _ (subscriptTail _ (Expr.Slice (some _) none none _) (Value.str (ls _) _) _) _ _ _); (with_reducible rename Fr _ _ _ _ => Fw); (with_reducible rename News _ _ _ _ => Nw); (refine ls_from (s := ⟨_, _, _, _, _⟩) Fw Nw (by omega) (by omega) (by omega) ?_); intro _ _ _ _ _)
  k_with "subscriptTail" => ((with_reducible show wpAny _ _ (subscriptTail _ _ (Value.str (ls (_ :: _)) _) (Value.int 0 _)) _ _ _); (refine ls_item0 ?_); intro _ _)
  refine wpAny_ret ?_
  intro Qf hQf
  refine wpAny_tk ?_
  intro tk
  try k_fold
  refine hExecs ?_
  k_steps
  refine Hold.mk (hExecs ?_)
  rename Fr s.heap L' _ _ => F3
  rename News s.heap L' _ _ => N3
  have F4 := Mine.Fr.congr (m' := rwM none l _) F3 (map_ext [Str.ofString "cell", Str.ofString "row", Str.ofString "cells"] (by walk_at "mine same1") (by unfold rwM; walk_at "mine same2"))
  clear F3
  rename_i r h10 l10 h11
  refine hForL (L := L') (items := vs.toArray) rfl rfl rfl F4 N3 hL ?_ (fun i ob m => ∃ (u1 : Option Value) (us : List Value) (n : Nat), m = rwM u1 l r ∧ ob = { cls := .type "list", data := .seq us.toArray n } ∧ IntsAre us (rowOf (ns.take i)))
    ⟨_, [], _, rfl, rfl, .nil⟩ ?_ ?_ (by intro _; rfl) (by first | passes_own | with_unfolding_all passes_own)
  · intro Q' hQ'
    k_steps
    exact hQ'
  · clear F4 N3
    rintro i v it ob m1 h5 tk5 hv ⟨u1, us, n, rfl, rfl, hus⟩ hri ⟨F5, oi, N5, c1, c2⟩
    obtain ⟨k, t, rfl, hk⟩ := IntsAre.at hi i v (by simpa using hv)
    have m1 := fmod_lo k (n := 4) (by omega)
    have m2 := fmod_hi k (n := 4) (by omega)
    by_cases hp : 0 < Int.fmod k 4
    · have hg : ([4, 60, 9000] : List Int).getD (Int.fmod k 4 - 1).toNat 0 = (if Int.fmod k 4 = 1 then 4 else if Int.fmod k 4 = 2 then 60 else 9000) := by
        have : Int.fmod k 4 = 1 ∨ Int.fmod k 4 = 2 ∨ Int.fmod k 4 = 3 := by omega
        rcases this with e | e | e <;> rw [e] <;> rfl
      have hg0 : 0 < ([4, 60, 9000] : List Int).getD (Int.fmod k 4 - 1).toNat 0 := by rw [hg]; split; omega; split <;> omega
      k_steps
      rename Fr s.heap L' _ _ => F9
      rename News s.heap L' _ _ => N9
      rename _ < _ ∧ _ < _ => hlt
      refine append_second (s := ⟨_, _, _, _, _⟩) F9 N9 (Nat.ne_of_gt hlt.1) (fun p hp => ?_) ?_ (by rw [sizeLine_eq, List.size_toArray, hus.length]; exact Nat.le_trans (rowOf_len _) (by rw [List.length_take]; omega))
      · rw [List.mem_singleton.mp hp]; exact Ne.symm hri
      intro h12 F12 N12
      k_steps
      rename Fr s.heap L' _ _ => F13
      rename News s.heap L' _ _ => N13
      rename_i tk13
      have ec : Int.fmod (Int.fdiv k 4) (([4, 60, 9000] : List Int).getD (Int.fmod k 4 - 1).toNat 0) = cellOf k := by rw [hg]; rfl
      rw [ec, List.push_toArray] at N13
      have N14 := News.tl N13
      exact Hold.mk ⟨_, _, _, _, rfl, ⟨F13, oi, N14, c1, c2⟩, some _, _, _, rwM_set, rfl, by rw [rowOf_take hk, if_pos hp]; exact IntsAre.snoc hus⟩
    · have hc0 : Int.fmod k 4 = 0 := by omega
      k_steps
      exact Hold.mk ⟨_, _, _, _, rfl, ⟨F5, oi, N5, c1, c2⟩, some _, us, n, rwM_set, rfl, by rw [rowOf_take hk, if_neg hp]; simpa using hus⟩
  · rintro ob m1 h5 tk5 ⟨u1, us, n, rfl, rfl, hus⟩ F5 N5
    refine Hold.mk ?_
    clear F4 N3
    k_steps
    rename Fr s.heap L' _ _ => F9
    rename News s.heap L' _ _ => N9
    have hsz : ns.take vs.toArray.size = ns := by rw [List.size_toArray, hi.length, List.take_length]
    rw [hsz] at hus
    have hrl := rowOf_len ns
    refine add_lists_ints (s := ⟨_, _, _, _, _⟩) F9 N9 (N9.isList (.tail _ (.head _))) (ws := [.int 30 _, .int 0 _]) (N9.isList (.head _)) hus (.cons 30 _ (.cons 0 _ .nil)) (fun h15 F15 N15 hI15 => ?_) (by rw [sizeLine_eq]; simp only [List.length_cons, List.length_nil]; omega)
    have n15 := N15 _ (.head _)
    exact hQf _ _ (hret _ _ _ (Fr.keep F15) ⟨_, _, rfl, n15.2.2, N15.isList (.head _), hI15⟩)

/-! part RD -/
theorem rd_arr (ps : List Nat) : byteArr ((ps.filter fun _ => true).map fun (c : Nat) => (c : Int)) = (ps.map Nat.toUInt8).toArray := by
  unfold byteArr
  rw [List.map_map, List.filter_eq_self.mpr (fun _ _ => rfl)]
  rfl
theorem rd_back {ps : List Nat} (h : ∀ c ∈ ps, c < 128) : (ps.map Nat.toUInt8).map (·.toNat) = ps := by
  rw [List.map_map]
  conv => rhs; rw [← List.map_id ps]
  refine List.map_congr_left fun c hc => ?_
  have := h c hc
  show c % 256 = c
  omega
set_option maxHeartbeats 8000000 in
theorem read_con (w : World) (ps : List Nat) (t : Tok) (l : Addr) (vs : List Value) (ns : List Int) (hi : IntsAre vs ns) (hne : ps ≠ []) (h128 : ∀ c ∈ ps, c < 128) (hn : ∀ n ∈ ns, 0 ≤ n ∧ n < 2 ^ 20 - 1) (hl : ns.length ≤ 8) (hps : ps.length ≤ 100) (hsum : (ns.map (· + 1)).sum ≤ 1000000) :
    SCon w 80 10 100 [.str (ls ps) t, .ref l] (fun h => h.IsList l vs.toArray) (fun _ _ v => ∃ t, v = .str (ls (insL ns 128 (-1) ps)) t) := by
  unfold SCon
  k_fill
  w_top off
  k_with_none
  k_with "call ref" => (k_here; (show wpAny _ _ (call (Value.ref 21) [Value.int _ _, Value.int _ _]) _ _ _); k_dflt (refine' pcon_val (T_con _ _ _ _ _) ?k1 ?k2 ?k3 ?k4 ?k5 ?kK trivial ?kd ?ku ?_; walk_at "mine use"; k_whole); intro _ _ _ _ _ _; (try dsimp only); (try k_sweep))
  k_with "call ref" => (k_here; (show wpAny _ _ (call (Value.ref 35) [Value.int _ _, Value.bool _, Value.int _ _]) _ _ _); k_dflt (refine' pcon_val (adapt_con _ _ _ _ _ _ ?g1 ?g2 ?g3) ?k1 ?k2 ?k3 ?k4 ?k5 ?kK trivial ?kd ?ku ?_; (case g1 => omega); (case g2 => first | omega | (simp only [List.length_append, List.length_cons, List.length_nil, List.length_take, List.length_drop]; omega)); (case g3 => first | omega | (simp only [List.length_append, List.length_cons, List.length_nil, List.length_take, List.length_drop]; omega)); walk_at "mine use"; k_whole); intro _ _ _ _ _ _; (try dsimp only); (try k_sweep))
  k_with "call builtin:len" => ((with_reducible show wpAny _ _ (call (Value.builtin "len") [Value.str (ls _) _]) _ _ _); (refine ls_callLen (by first | omega | (simp only [List.length_append, List.length_cons, List.length_nil, List.length_take, List.length_drop]; omega)) ?_))
  k_with "call builtin:chr" => ((with_reducible show wpAny _ _ (call (Value.builtin "chr") [Value.int _ _]) _ _ _); (refine ls_chr (by omega) (by omega) ?_); intro _ _)
  k_with "call builtin:ord" => ((with_reducible show wpAny _ _ (call (Value.builtin "ord") [Value.str (ls [_]) _]) _ _ _); (refine ls_ord ?_); intro _ _)
  k_with "binaryOp Add str str" => ((with_reducible show wpAny _ _ (binaryOp Operator.Add (Value.str (ls _) _) (Value.str (ls _) _)) _ _ _); (refine ls_add (by first | omega | (simp only [List.length_append, List.length_cons, List.length_nil, List.length_take, List.length_drop]; omega)) ?_); intro _ _)
  k_with "compareOp Eq str str" => ((with_reducible show wpAny _ _ (compareOp CmpOp.Eq (Value.str (ls _) _) (Value.str (ls _) _)) _ _ _); (refine ls_eq ?_))
  k_with "compareOp NotEq str str" => ((with_reducible show wpAny _ _ (compareOp CmpOp.NotEq (Value.str (ls _) _) (Value.str (ls _) _)) _ _ _); (refine ls_ne ?_))
  k_with "subscriptTail Name Slice str ref" => ((with_reducible show wpAny _ _ (subscriptTail _ (Expr.Slice none (some _) none _) (Value.str (ls _) _) _) _ _ _); (with_reducible rename Fr _ _ _ _ => Fw); (with_reducible rename News _ _ _ _ => Nw); (refine ls_to (s := ⟨_, _, _, _, _⟩) Fw Nw (by omega) (by omega) (by omega) ?_); intro _ _ _ _ _)
  k_with "subscriptTail Name Slice str ref" => ((with_reducible show wpAny _ _ (subscriptTail _ (Expr.Slice (some _) none none _) (Value.str (ls _) _) _) _ _ _); (with_reducible rename Fr _ _ _ _ => Fw); (with_reducible rename News _ _ _ _ => Nw); (refine ls_from (s := ⟨_, _, _, _, _⟩) Fw Nw (by omega) (by omega) (by omega) ?_); intro _ _ _ _ _)
  k_with "subscriptTail" => ((with_reducible show wpAny _ _ (subscriptTail _ _ (Value.str (ls (_ :: _)) _) (Value.int 0 _)) _ _ _); (refine ls_item0 ?_); intro _ _)
  k_with "binaryOp Add bytes bytes" => (k_here; (with_reducible show wpAny _ _ (binaryOp Operator.Add (Value.bytes _ _) (Value.bytes _ _)) _ _ _); (refine KBy.add_bytes (by simp only [List.size_toArray, List.length_map, List.length_cons, List.length_nil]; omega) ?_); intro _ _)
  intro dp un gd cn cs a ccd cl outer A₀ base h₀ L m mean mg mb s Q B F X T hk hL hd hu hret
  walk_at "mine enterP"
  intro L' h' F' N' B' X' T'
  replace F' := Mine.Fr.congr (m' := fun y => if y = Str.ofString "row" then some (.ref l) else if y = Str.ofString "plain" then some (.str (ls ps) t) else none) F' lk2
  refine wpP_ret ?_
  intro Qf hQf
  refine wpP_tk ?_
  intro tk
  refine pExecs_any ?_
  k_steps
  rename CarriedAll _ _ => hc
  rename Fr s.heap L' _ _ => F2
  rename News s.heap L' _ _ => N2
  have hi2 : IntsAre _ ((ps.filter fun _ => true).map fun (c : Nat) => (c : Int)) := CarriedAll.intsOf hc
  have hlm : ((ps.filter fun _ => true).map fun (c : Nat) => (c : Int)).length = ps.length := by simp
  refine KBa.make_K (s := ⟨_, _, _, _, _⟩) F2 N2 rfl (by assumption) hi2 (fun n hn' => ?_) (by rw [hlm]; omega) ?_
  · obtain ⟨c, hc', rfl⟩ := List.mem_map.mp hn'
    have := h128 c ((List.mem_filter.mp hc').1)
    omega
  intro h3 t3 k3 F3 N3 _
  rw [rd_arr]
  clear hc F2 N2 hi2 hlm
  have hbl : (ps.map Nat.toUInt8).length = ps.length := by simp
  have hb128 : ∀ c ∈ ps.map Nat.toUInt8, c.toNat < 128 := fun c hc => by
    obtain ⟨x, hx, rfl⟩ := List.mem_map.mp hc
    have := h128 x hx
    show x % 256 < 128
    omega
  have hbne : ps.map Nat.toUInt8 ≠ [] := by simpa using hne
  have hback := rd_back h128
  generalize ps.map Nat.toUInt8 = hb at *
  k_steps
  refine pExecs_cons (pReturn_some (pCall_Name ?_))
  k_steps
  refine pCallWith_fn rfl (Nat.le_of_ble_eq_true rfl) (pEvalArgsB (pSpliced_cons (pBinOp (wpP_of ?_))))
  k_steps
  refine pCall_Name ?_
  k_steps
  refine pCallWith_fn rfl (Nat.le_of_ble_eq_true rfl) (pEvalArgsB (wpP_of ?_))
  k_steps
  rename Fr s.heap L' _ _ => F4
  rename News s.heap L' _ _ => N4
  refine FnOn.mk F4 X' (by k_is) ?_
  k_dflt (refine' scon_val (gi_con _ _ _ _ _ _ ?g1 ?g2 hi hn hl) ?k1 ?k2 ?k3 ?k4 ?k5 ?kK ?kp ?kd ?ku ?_; (case g1 => omega); (case g2 => omega); (case kp => exact Fr.lst F4 hL); walk_at "mine use")
  intro t9 h9 tk9 F9 N9 K9
  clear F4 N4
  rw [← hbl]
  have hz := giA_size hb.length ns 0 72 hn
  refine wpP_of (KBy.add_bytes ?_ fun t10 k10 => ?_)
  · simp only [Array.size_append, List.size_toArray, List.length_cons, List.length_nil]; omega
  refine wpP_of ?_
  k_steps
  rename Fr s.heap L' _ _ => F10
  rename News s.heap L' _ _ => N10
  refine FnOn.mk F10 X' (by k_is) ?_
  have earr : hb.toArray ++ [45].toArray ++ giA hb.length 0 72 ns = (hb ++ 45 :: (giA hb.length 0 72 ns).toList).toArray := by
    apply Array.ext'
    simp
  rw [earr]
  k_dflt (refine' wpP_of (pcon_val (pd_con _ hb ns _ _ hbne hb128 hn hl ?g1 hsum) ?k1 ?k2 ?k3 ?k4 ?k5 ?kK trivial ?kd ?ku ?_); (case g1 => omega); walk_at "mine use")
  intro t11 h11 tk11 F11 N11 K11
  rw [hback]
  exact hQf _ _ (hret _ _ _ (Fr.keep F11) ⟨_, rfl⟩)

/-! part LAYT -/
/-- the signs from 128 on, as numbers -/
def codesI (xs : List Nat) : List Int := (xs.filter (fun c : Nat => decide (127 < (c : Int)))).map (fun c : Nat => (c : Int))
theorem lay_weight : ∀ (ns : List Int), (∀ n ∈ ns, 0 ≤ n ∧ n < 2 ^ 21) → PyData.canLayAll0 (ns.map .int) = true ∧ PyData.weightAll (ns.map .int) ≤ 22 * ns.length ∧ PyData.depthAll (ns.map .int) ≤ 1
  | [], _ => by simp [PyData.canLayAll0, PyData.weightAll, PyData.depthAll]
  | n :: ns, h => by
    obtain ⟨h1, h2, h3⟩ := lay_weight ns fun m hm => h m (.tail _ hm)
    have hn := h n (.head _)
    have hw : PyData.weight (.int n) ≤ 21 := by
      simp only [PyData.weight]
      split
      · omega
      · have : n.natAbs.log2 < 21 := (Nat.log2_lt (by rename_i hne; simp at hne; omega)).mpr (by omega)
        omega
    refine ⟨?_, ?_, ?_⟩
    · simp only [List.map_cons, PyData.canLayAll0, PyData.canLay0, h1, Bool.and_true]
    · simp only [List.map_cons, PyData.weightAll, List.length_cons]; omega
    · simp only [List.map_cons, PyData.depthAll, PyData.depth]; omega
theorem lay_small {ns : List Int} (h : ∀ n ∈ ns, 0 ≤ n ∧ n < 2 ^ 21) (hl : ns.length ≤ 64) : PyData.layable0 (.list (ns.map .int)) = true := by
  obtain ⟨h1, h2, h3⟩ := lay_weight ns h
  have e1 : PyData.canLay0 (.list (ns.map .int)) = true := by simp only [PyData.canLay0, h1]
  have e2 : PyData.depth (.list (ns.map .int)) ≤ 64 := by simp only [PyData.depth]; omega
  have e3 : PyData.weight (.list (ns.map .int)) ≤ 2 ^ 20 := by simp only [PyData.weight]; omega
  unfold PyData.layable0
  rw [e1, decide_eq_true e2, decide_eq_true e3]
  rfl
theorem idx_count {a : Int} : ∀ {cd : List Int}, cd.Pairwise (· ≤ ·) → a ∈ cd → cd.idxOf a + cd.count a ≤ cd.length
  | x :: xs, h, hm => by
    have hc := List.count_le_length (a := a) (l := xs)
    by_cases e : x = a
    · subst e
      rw [List.idxOf_cons_self, List.count_cons_self, List.length_cons]
      omega
    · have hm' : a ∈ xs := by rcases List.mem_cons.mp hm with q | q; exact absurd q.symm e; exact q
      have ih := idx_count (List.Pairwise.of_cons h) hm'
      rw [List.idxOf_cons, beq_eq_false_iff_ne.mpr e, cond_false, List.count_cons_of_ne e, List.length_cons]
      omega

/-! part TRN -/
set_option maxHeartbeats 8000000 in
theorem turnA_con (w : World) (l : Addr) (v0 : Value) (vs : List Value) (n0 : Int) (ns : List Int) (c : Nat) (xs : List Nat) (size : Int) (t0 t1 : Tok) (hi : IntsAre (v0 :: vs) (n0 :: ns)) (hl : ns.length ≤ 8) (hc : c < 128) :
    PCon w 85 4 40 [.ref l, .str (ls (c :: xs)) t0, .int size t1] (fun h => h.IsList l (v0 :: vs).toArray)
      (fun h h' v => ∃ a us, v = .ref a ∧ h.get? a = none ∧ h'.IsList a (List.toArray us) ∧ IntsAre us ((n0 - 1) :: ns)) := by
  unfold PCon
  k_fill
  w_top off
  intro dp un gd cn cs a ccd cl outer A₀ base h₀ L m mean mg mb s Q E B F X T hk hL hd hu hret
  walk_at "mine enterA"
  intro L' h' F' N' B' X' T'
  replace F' := Mine.Fr.congr (m' := fun y => if y = Str.ofString "size" then some (.int size t1) else if y = Str.ofString "seen" then some (.str (ls (c :: xs)) t0) else if y = Str.ofString "row" then some (.ref l) else none) F' lk3
  k_with_none
  k_with "call ref" => (k_here; (show wpAny _ _ (call (Value.ref 21) [Value.int _ _, Value.int _ _]) _ _ _); k_dflt (refine' pcon_val (T_con _ _ _ _ _) ?k1 ?k2 ?k3 ?k4 ?k5 ?kK trivial ?kd ?ku ?_; walk_at "mine use"; k_whole); intro _ _ _ _ _ _; (try dsimp only); (try k_sweep))
  k_with "call ref" => (k_here; (show wpAny _ _ (call (Value.ref 35) [Value.int _ _, Value.bool _, Value.int _ _]) _ _ _); k_dflt (refine' pcon_val (adapt_con _ _ _ _ _ _ ?g1 ?g2 ?g3) ?k1 ?k2 ?k3 ?k4 ?k5 ?kK trivial ?kd ?ku ?_; (case g1 => omega); (case g2 => first | omega | (simp only [List.length_append, List.length_cons, List.length_nil, List.length_take, List.length_drop]; omega)); (case g3 => first | omega | (simp only [List.length_append, List.length_cons, List.length_nil, List.length_take, List.length_drop]; omega)); walk_at "mine use"; k_whole); intro _ _ _ _ _ _; (try dsimp only); (try k_sweep))
  k_with "call builtin:len" => ((with_reducible show wpAny _ _ (call (Value.builtin "len") [Value.str (ls _) _]) _ _ _); (refine ls_callLen (by first | omega | (simp only [List.length_append, List.length_cons, List.length_nil, List.length_take, List.length_drop]; omega)) ?_))
  k_with "call builtin:chr" => ((with_reducible show wpAny _ _ (call (Value.builtin "chr") [Value.int _ _]) _ _ _); (refine ls_chr (by omega) (by omega) ?_); intro _ _)
  k_with "call builtin:ord" => ((with_reducible show wpAny _ _ (call (Value.builtin "ord") [Value.str (ls [_]) _]) _ _ _); (refine ls_ord ?_); intro _ _)
  k_with "binaryOp Add str str" => ((with_reducible show wpAny _ _ (binaryOp Operator.Add (Value.str (ls _) _) (Value.str (ls _) _)) _ _ _); (refine ls_add (by first | omega | (simp only [List.length_append, List.length_cons, List.length_nil, List.length_take, List.length_drop]; omega)) ?_); intro _ _)
  k_with "compareOp Eq str str" => ((with_reducible show wpAny _ _ (compareOp CmpOp.Eq (Value.str (ls _) _) (Value.str (ls _) _)) _ _ _); (refine ls_eq ?_))
  k_with "compareOp NotEq str str" => ((with_reducible show wpAny _ _ (compareOp CmpOp.NotEq (Value.str (ls _) _) (Value.str (ls _) _)) _ _ _); (refine ls_ne ?_))
  k_with "subscriptTail Name Slice str ref" => ((with_reducible show wpAny _ _ (subscriptTail _ (Expr.Slice none (some _) none _) (Value.str (ls _) _) _) _ _ _); (with_reducible rename Fr _ _ _ _ => Fw); (with_reducible rename News _ _ _ _ => Nw); (refine ls_to (s := ⟨_, _, _, _, _⟩) Fw Nw (by omega) (by omega) (by omega) ?_); intro _ _ _ _ _)
  k_with "subscriptTail Name Slice str ref" => ((with_reducible show wpAny _ _ (subscriptTail _ (Expr.Slice (some _) none none _) (Value.str (ls _) _) _) _ _ _); (with_reducible rename Fr _ _ _ _ => Fw); (with_reducible rename News _ _ _ _ => Nw); (refine ls_from (s := ⟨_, _, _, _, _⟩) Fw Nw (by omega) (by omega) (by omega) ?_); intro _ _ _ _ _)
  k_with "subscriptTail" => ((with_reducible show wpAny _ _ (subscriptTail _ _ (Value.str (ls (_ :: _)) _) (Value.int 0 _)) _ _ _); (refine ls_item0 ?_); intro _ _)
  refine wpAny_ret ?_
  intro Qf hQf
  refine wpAny_tk ?_
  intro tk
  try k_fold
  have hcz : ((c : Nat) : Int) < 128 := by omega
  k_steps
  rename Fr s.heap L' _ _ => F9
  rename News s.heap L' _ _ => N9
  rename IntsAre _ _ => hI9
  exact hQf _ _ (hret _ _ _ (Fr.keep F9) ⟨_, _, rfl, (N9 _ (.head _)).2.2, N9.isList (.head _), hI9⟩)
/-- the row after a sign from 128 on has gone to the end -/
def lastL (la : Int) : List Int → List Int
  | [] => []
  | r :: rs => (r - 1 - la) :: rs
def tuW (ns : List Int) (wi : List Int) (la : Int) (b : Nat) (re : List Int) : List Int := ns.take b ++ [ns.getD b 0 + (wi ++ [la]).getD 0 0] ++ (wi ++ [la]).drop 1 ++ lastL la re
def tuB (ns : List Int) (b k : Nat) (size : Int) : List Int := tuW ns ((ns.drop (b + 1)).take (k - 1)) (size + b - ((ns.drop (b + 1)).take (k - 1)).sum) b (ns.drop (b + k))
def trM (u1 u2 u3 u4 : Option Value) (b e size : Int) (x : List Nat) (D l : Addr) (t0 t1 t2 t3 : Tok) (y : Str) : Option Value :=
  if y = Str.ofString "within" then u1 else if y = Str.ofString "lacks" then u2 else if y = Str.ofString "ring" then u3 else if y = Str.ofString "rest" then u4 else
  if y = Str.ofString "end" then some (.int e t3) else if y = Str.ofString "begin" then some (.int b t2) else if y = Str.ofString "codes" then some (.ref D) else if y = Str.ofString "size" then some (.int size t1)
  else if y = Str.ofString "seen" then some (.str (ls x) t0) else if y = Str.ofString "row" then some (.ref l) else none
set_option maxHeartbeats 8000000 in
theorem turnB_con (w : World) (l : Addr) (vs : List Value) (ns : List Int) (c : Nat) (xs : List Nat) (size : Int) (t0 t1 : Tok) (hi : IntsAre vs ns) (hl : ns.length ≤ 8) (hx : xs.length ≤ 30) (hc : 128 ≤ c) (hcr : ∀ x ∈ c :: xs, x < 1114112) (hnl : (codesI (c :: xs)).length = ns.length) :
    PCon w 85 4 40 [.ref l, .str (ls (c :: xs)) t0, .int size t1] (fun h => h.IsList l vs.toArray)
      (fun h h' v => ∃ cd : List Int, cd.Perm (codesI (c :: xs)) ∧ cd.Pairwise (· ≤ ·) ∧ ∃ a us, v = .ref a ∧ h.get? a = none ∧ h'.IsList a (List.toArray us) ∧ IntsAre us (tuB ns (cd.idxOf (c : Int)) (cd.count (c : Int)) size)) := by
  unfold PCon
  k_fill
  w_top off
  intro dp un gd cn cs a ccd cl outer A₀ base h₀ L m mean mg mb s Q E B F X T hk hL hd hu hret
  walk_at "mine enterA"
  intro L' h' F' N' B' X' T'
  replace F' := Mine.Fr.congr (m' := fun y => if y = Str.ofString "size" then some (.int size t1) else if y = Str.ofString "seen" then some (.str (ls (c :: xs)) t0) else if y = Str.ofString "row" then some (.ref l) else none) F' lk3
  k_with_none
  k_with "call ref" => (k_here; (show wpAny _ _ (call (Value.ref 21) [Value.int _ _, Value.int _ _]) _ _ _); k_dflt (refine' pcon_val (T_con _ _ _ _ _) ?k1 ?k2 ?k3 ?k4 ?k5 ?kK trivial ?kd ?ku ?_; walk_at "mine use"; k_whole); intro _ _ _ _ _ _; (try dsimp only); (try k_sweep))
  k_with "call ref" => (k_here; (show wpAny _ _ (call (Value.ref 35) [Value.int _ _, Value.bool _, Value.int _ _]) _ _ _); k_dflt (refine' pcon_val (adapt_con _ _ _ _ _ _ ?g1 ?g2 ?g3) ?k1 ?k2 ?k3 ?k4 ?k5 ?kK trivial ?kd ?ku ?_; (case g1 => omega); (case g2 => first | omega | (simp only [List.length_append, List.length_cons, List.length_nil, List.length_take, List.length_drop]; omega)); (case g3 => first | omega | (simp only [List.length_append, List.length_cons, List.length_nil, List.length_take, List.length_drop]; omega)); walk_at "mine use"; k_whole); intro _ _ _ _ _ _; (try dsimp only); (try k_sweep))
  k_with "call builtin:len" => ((with_reducible show wpAny _ _ (call (Value.builtin "len") [Value.str (ls _) _]) _ _ _); (refine ls_callLen (by first | omega | (simp only [List.length_append, List.length_cons, List.length_nil, List.length_take, List.length_drop]; omega)) ?_))
  k_with "call builtin:chr" => ((with_reducible show wpAny _ _ (call (Value.builtin "chr") [Value.int _ _]) _ _ _); (refine ls_chr (by omega) (by omega) ?_); intro _ _)
  k_with "call builtin:ord" => ((with_reducible show wpAny _ _ (call (Value.builtin "ord") [Value.str (ls [_]) _]) _ _ _); (refine ls_ord ?_); intro _ _)
  k_with "binaryOp Add str str" => ((with_reducible show wpAny _ _ (binaryOp Operator.Add (Value.str (ls _) _) (Value.str (ls _) _)) _ _ _); (refine ls_add (by first | omega | (simp only [List.length_append, List.length_cons, List.length_nil, List.length_take, List.length_drop]; omega)) ?_); intro _ _)
  k_with "compareOp Eq str str" => ((with_reducible show wpAny _ _ (compareOp CmpOp.Eq (Value.str (ls _) _) (Value.str (ls _) _)) _ _ _); (refine ls_eq ?_))
  k_with "compareOp NotEq str str" => ((with_reducible show wpAny _ _ (compareOp CmpOp.NotEq (Value.str (ls _) _) (Value.str (ls _) _)) _ _ _); (refine ls_ne ?_))
  k_with "subscriptTail Name Slice str ref" => ((with_reducible show wpAny _ _ (subscriptTail _ (Expr.Slice none (some _) none _) (Value.str (ls _) _) _) _ _ _); (with_reducible rename Fr _ _ _ _ => Fw); (with_reducible rename News _ _ _ _ => Nw); (refine ls_to (s := ⟨_, _, _, _, _⟩) Fw Nw (by omega) (by omega) (by omega) ?_); intro _ _ _ _ _)
  k_with "subscriptTail Name Slice str ref" => ((with_reducible show wpAny _ _ (subscriptTail _ (Expr.Slice (some _) none none _) (Value.str (ls _) _) _) _ _ _); (with_reducible rename Fr _ _ _ _ => Fw); (with_reducible rename News _ _ _ _ => Nw); (refine ls_from (s := ⟨_, _, _, _, _⟩) Fw Nw (by omega) (by omega) (by omega) ?_); intro _ _ _ _ _)
  k_with "subscriptTail" => ((with_reducible show wpAny _ _ (subscriptTail _ _ (Value.str (ls (_ :: _)) _) (Value.int 0 _)) _ _ _); (refine ls_item0 ?_); intro _ _)
  k_with "subscriptTail Name Slice ref ref" => (k_here; (with_reducible show wpAny _ _ (subscriptTail _ (Expr.Slice _ _ none _) (Value.ref _) (Value.ref _)) _ _ _); k_dflt (refine' W.kmk_slice_ints ?w9F ?w9N ?w9l ?w9p ?w9q ?w9i ?w9m rfl ?_ ?w9s ?w9t ?w9z; (case w9F => k_asm); (case w9N => k_asm); (case w9l => first | exact News.isList (by k_asm) (by k_mem) | exact Fr.lst (by k_asm) (by k_asm)); (case w9p => first | exact IsPart.none | exact IsPart.int _ _); (case w9q => first | exact IsPart.none | exact IsPart.int _ _); (case w9i => assumption); (case w9m => first | exact W.kmk_from (by assumption) (by omega) | exact W.kmk_upto (by assumption) (by omega) | exact W.kmk_run (by assumption) (by omega) (by omega)); (case w9s => with_unfolding_all rfl); (case w9t => intro _; with_unfolding_all rfl); (case w9z => exact W.kmk_sz (by assumption) (by rw [sizeLine_eq]; omega))); intro _ _ _ _ _ l1 _ hC' hL'; clear l1 hC' hL'; (try k_sweep))
  k_with "binaryOp Add ref ref" => (k_here; (with_reducible show wpAny _ _ (binaryOp _ (Value.ref _) (Value.ref _)) _ _ _); k_dflt (refine' W.kmk_add_ints ?w9F ?w9N ?w9a ?w9b ?w9i ?w9j ?_ ?w9z; (case w9F => k_asm); (case w9N => k_asm); (case w9a => exact News.isList (by k_asm) (by k_mem)); (case w9b => exact News.isList (by k_asm) (by k_mem)); (case w9i => first | assumption | exact .cons _ _ .nil); (case w9j => first | assumption | exact .cons _ _ .nil); (case w9z => rw [sizeLine_eq]; (try simp only [List.length_append, List.length_cons, List.length_nil, List.length_take, List.length_drop]); omega)); intro _ _ _ _ _ l1 _; clear l1; (try k_sweep))
  refine wpAny_ret ?_
  intro Qf hQf
  refine wpAny_tk ?_
  intro tk
  try k_fold
  have hcz : ¬ ((c : Nat) : Int) < 128 := by omega
  have hxl : (c :: xs).length ≤ 31 := by simp only [List.length_cons]; omega
  refine hExecs ?_
  k_steps
  refine Hold.mk (hExecs ?_)
  k_steps
  rename CarriedAll _ _ => hcar
  rename Fr s.heap L' _ _ => F2
  rename News s.heap L' _ _ => N2
  have hi2 : IntsAre _ (codesI (c :: xs)) := CarriedAll.intsOf hcar
  have hcl : (codesI (c :: xs)).length ≤ 31 := by
    unfold codesI
    rw [List.length_map]
    exact Nat.le_trans (List.length_filter_le _ _) hxl
  refine W.kso_sorted (s := ⟨_, _, _, _, _⟩) F2 N2 (by assumption) hi2 (by omega) ?_
  intro D vs' cd cc h3 F3 N3 l3 i3 e3 p3 o3 _
  clear hcar F2 N2 hi2
  have hmem : (c : Int) ∈ cd := p3.mem_iff.mpr (by
    unfold codesI
    refine List.mem_map.mpr ⟨c, List.mem_filter.mpr ⟨.head _, ?_⟩, rfl⟩
    simp only [decide_eq_true_eq]
    omega)
  have hlay : PyData.layable0 (.list (cd.map .int)) = true := lay_small (fun n hn => by
    have := p3.mem_iff.mp hn
    unfold codesI at this
    obtain ⟨x, hx, rfl⟩ := List.mem_map.mp this
    have := hcr x (List.mem_filter.mp hx).1
    omega) (by omega)
  k_steps
  refine Hold.mk (hExecs ?_)
  k_steps
  refine Hold.mk (hExecs ?_)
  k_steps
  refine Hold.mk (hExecs ?_)
  rename Fr s.heap L' _ _ => F4
  rename News s.heap L' _ _ => N4
  obtain ⟨t2, t3, F5⟩ : ∃ t2 t3, Fr s.heap L' _ (trM none none none none (cd.idxOf (c : Int) : Nat) ((cd.idxOf (c : Int) : Nat) + (cd.count (c : Int) : Nat)) size (c :: xs) D l t0 t1 t2 t3) := ⟨_, _, Mine.Fr.congr F4 (map_ext [Str.ofString "within", Str.ofString "lacks", Str.ofString "ring", Str.ofString "rest", Str.ofString "end", Str.ofString "begin", Str.ofString "codes", Str.ofString "size", Str.ofString "seen", Str.ofString "row"] (by walk_at "mine same1") (by unfold trM; walk_at "mine same2"))⟩
  clear F4
  have hb1 : cd.idxOf (c : Int) < cd.length := List.idxOf_lt_length_iff.mpr hmem
  have hb2 : 0 < cd.count (c : Int) := List.count_pos_iff.mpr hmem
  have hb3 := idx_count o3 hmem
  rw [e3, hnl] at hb1 hb3
  replace hret := fun v h' tk' k p => hret v h' tk' k ⟨cd, p3, o3, p⟩
  clear hlay hmem o3 p3 e3 i3
  generalize cd.idxOf (c : Int) = b at *
  generalize cd.count (c : Int) = k at *
  refine wpAny_tk ?_
  intro tk5
  k_steps
  refine Hold.mk (hExecs ?_)
  rename Fr s.heap L' _ _ => F6
  rename News s.heap L' _ _ => N6
  rename IntsAre _ (List.take _ _) => hw
  rename_i D1 ws1 h61 h6
  have F7 := Mine.Fr.congr (m' := trM (some (.ref D1)) none none none b (b + k) size (c :: xs) D l t0 t1 t2 t3) F6 (map_ext [Str.ofString "within", Str.ofString "lacks", Str.ofString "ring", Str.ofString "rest", Str.ofString "end", Str.ofString "begin", Str.ofString "codes", Str.ofString "size", Str.ofString "seen", Str.ofString "row"] (by walk_at "mine same1") (by unfold trM; walk_at "mine same2"))
  have N7 : News s.heap L' h6 [(D1, W.listOf ws1.toArray 0)] := fun p hp => N6 p (by rw [List.mem_singleton.mp hp]; exact .head _)
  have ew : List.take (min ((b : Int) + k).toNat ns.length - ((b : Int) + 1).toNat) (List.drop ((b : Int) + 1).toNat ns) = (ns.drop (b + 1)).take (k - 1) := by
    congr 1
    omega
  rw [ew] at hw
  unfold tuB at hret
  have hwl : ((ns.drop (b + 1)).take (k - 1)).length ≤ 8 := by rw [List.length_take, List.length_drop]; omega
  generalize (ns.drop (b + 1)).take (k - 1) = wi at *
  clear F6 N6 ew
  refine wpAny_tk ?_
  intro tk6
  k_steps
  refine Hold.mk (hExecs ?_)
  rename Fr s.heap L' _ _ => F8
  rename News s.heap L' _ _ => N8
  obtain ⟨t4, F9⟩ : ∃ t4, Fr s.heap L' _ (trM (some (.ref D1)) (some (.int (size + b - wi.sum) t4)) none none b (b + k) size (c :: xs) D l t0 t1 t2 t3) := ⟨_, Mine.Fr.congr F8 (map_ext [Str.ofString "within", Str.ofString "lacks", Str.ofString "ring", Str.ofString "rest", Str.ofString "end", Str.ofString "begin", Str.ofString "codes", Str.ofString "size", Str.ofString "seen", Str.ofString "row"] (by walk_at "mine same1") (by unfold trM; walk_at "mine same2"))⟩
  clear F8
  generalize size + b - wi.sum = la at *
  refine wpAny_tk ?_
  intro tk7
  k_steps
  refine Hold.mk (hExecs ?_)
  rename Fr s.heap L' _ _ => F10
  rename News s.heap L' _ _ => N10
  rename IntsAre _ (wi ++ [la]) => hr
  rename_i l2 h22 l1 D2 ws2 h23 h10
  have F11 := Mine.Fr.congr (m' := trM (some (.ref D1)) (some (.int la t4)) (some (.ref D2)) none b (b + k) size (c :: xs) D l t0 t1 t2 t3) F10 (map_ext [Str.ofString "within", Str.ofString "lacks", Str.ofString "ring", Str.ofString "rest", Str.ofString "end", Str.ofString "begin", Str.ofString "codes", Str.ofString "size", Str.ofString "seen", Str.ofString "row"] (by walk_at "mine same1") (by unfold trM; walk_at "mine same2"))
  have N11 : News s.heap L' h10 [(D2, W.listOf ws2.toArray 0)] := fun p hp => N10 p (by rw [List.mem_singleton.mp hp]; exact .head _)
  clear F10 N10 l1 hw
  refine wpAny_tk ?_
  intro tk8
  k_steps
  refine Hold.mk (hExecs ?_)
  rename Fr s.heap L' _ _ => F12
  rename News s.heap L' _ _ => N12
  rename IntsAre _ (List.drop _ _) => hre
  rename_i D3 ws3 h31 h12
  have F13 := Mine.Fr.congr (m' := trM (some (.ref D1)) (some (.int la t4)) (some (.ref D2)) (some (.ref D3)) b (b + k) size (c :: xs) D l t0 t1 t2 t3) F12 (map_ext [Str.ofString "within", Str.ofString "lacks", Str.ofString "ring", Str.ofString "rest", Str.ofString "end", Str.ofString "begin", Str.ofString "codes", Str.ofString "size", Str.ofString "seen", Str.ofString "row"] (by walk_at "mine same1") (by unfold trM; walk_at "mine same2"))
  have ere : ((b : Int) + k).toNat = b + k := by omega
  rw [ere] at hre
  have hrl : (ns.drop (b + k)).length ≤ 8 := by rw [List.length_drop]; omega
  clear F12 ere
  generalize ns.drop (b + k) = re at *
  have hrg : 0 < (wi ++ [la]).length := by simp
  have hrg2 : (wi ++ [la]).length ≤ 9 := by simp; omega
  refine wpAny_mono (Q := fun f s' => f = .next ∧ Hold (∃ D4 ws4 h tk, s' = { s with heap := h, toks := tk } ∧ Fr s.heap L' h (trM (some (.ref D1)) (some (.int la t4)) (some (.ref D2)) (some (.ref D4)) b (b + k) size (c :: xs) D l t0 t1 t2 t3) ∧ News s.heap L' h [(D4, W.listOf (List.toArray ws4) 0), (D2, W.listOf ws2.toArray 0)] ∧ IntsAre ws4 (lastL la re))) ?_ ?_ fun _ _ e => e
  · refine wpAny_tk ?_
    intro tk9
    cases re with
    | nil =>
      cases hre
      k_steps
      exact Hold.mk ⟨_, _, _, _, rfl, F13, N12, .nil⟩
    | cons r rs =>
      have hne : ws3.isEmpty = false := by cases hre; rfl
      k_steps
      rename Fr s.heap L' _ _ => F17
      rename News s.heap L' _ _ => N17
      rename IntsAre _ (_ ++ _) => hI17
      have F18 := Mine.Fr.congr (m' := trM (some (.ref D1)) (some (.int la t4)) (some (.ref D2)) (some _) b (b + k) size (c :: xs) D l t0 t1 t2 t3) F17 (map_ext [Str.ofString "within", Str.ofString "lacks", Str.ofString "ring", Str.ofString "rest", Str.ofString "end", Str.ofString "begin", Str.ofString "codes", Str.ofString "size", Str.ofString "seen", Str.ofString "row"] (by walk_at "mine same1") (by unfold trM; walk_at "mine same2"))
      exact Hold.mk ⟨_, _, _, _, rfl, F18, (fun p hp => N17 p (by rcases List.mem_cons.mp hp with rfl | hp; exact .head _; rw [List.mem_singleton.mp hp]; simp)), hI17⟩
  · rintro f s' ⟨rfl, D4, ws4, h14, tk14, rfl, F14, N14, hI14⟩
    clear hre F13 N12
    have hll : (lastL la re).length ≤ 8 := by
      cases re with
      | nil => exact Nat.zero_le _
      | cons r rs => exact hrl
    refine Hold.mk ?_
    unfold tuW at hret
    generalize lastL la re = le at *
    generalize wi ++ [la] = rg at *
    k_steps
    rename Fr s.heap L' _ _ => F15
    rename News s.heap L' _ _ => N15
    rename IntsAre _ (_ ++ _ ++ _ ++ _) => hI15
    exact hQf _ _ (hret _ _ _ (Fr.keep F15) ⟨_, _, rfl, (N15 _ (.head _)).2.2, N15.isList (.head _), hI15⟩)

/-! part MA -/
/-! the plain law -/
def put (r v : Nat) (cs : List Nat) : List Nat := cs.take r ++ v :: cs.drop r
theorem put_len {r v : Nat} {cs : List Nat} (h : r ≤ cs.length) : (put r v cs).length = cs.length + 1 := by
  unfold put
  rw [List.length_append, List.length_cons, List.length_take, List.length_drop]
  omega
theorem put_succ (r v y : Nat) (cs : List Nat) : put (r + 1) v (y :: cs) = y :: put r v cs := rfl
theorem put_zero (v : Nat) (cs : List Nat) : put 0 v cs = v :: cs := by simp [put]
theorem put_end (v : Nat) (cs : List Nat) : put cs.length v cs = cs ++ [v] := by simp [put]
theorem put_app {r v : Nat} {cs ds : List Nat} (h : r ≤ cs.length) : put r v (cs ++ ds) = put r v cs ++ ds := by
  unfold put
  rw [List.take_append_of_le_length h, List.drop_append_of_le_length h]
  simp
theorem put_mem {r v y : Nat} {cs : List Nat} : y ∈ put r v cs ↔ y = v ∨ y ∈ cs := by
  unfold put
  conv => rhs; rw [← List.take_append_drop r cs]
  simp only [List.mem_append, List.mem_cons]
  constructor
  · rintro (h | h | h)
    · exact .inr (.inl h)
    · exact .inl h
    · exact .inr (.inr h)
  · rintro (h | h | h)
    · exact .inr (.inl h)
    · exact .inl h
    · exact .inr (.inr h)
theorem put_perm (r v : Nat) (cs : List Nat) : (put r v cs).Perm (v :: cs) := by
  unfold put
  conv => rhs; rw [← List.take_append_drop r cs]
  exact List.perm_middle
theorem put_filter {r v : Nat} {cs : List Nat} (f : Nat → Bool) (h : f v = false) : (put r v cs).filter f = cs.filter f := by
  unfold put
  conv => rhs; rw [← List.take_append_drop r cs]
  rw [List.filter_append, List.filter_append, List.filter_cons, h]
  rfl
/-- what one number does -/
theorem step_eq {c a r : Nat} {p d : Int} {cs : List Nat} {ds : List Int} (h : p + (d + 1) = (a : Int) * (cs.length + 1) + r) (hr : r ≤ cs.length) :
    insL (d :: ds) c p cs = insL ds ((c + a : Nat) : Int) (r : Int) (put r (c + a) cs) := by
  have e1 : Int.fdiv (p + (d + 1)) (cs.length + 1) = a := by
    rw [h, Int.fdiv_eq_ediv_of_nonneg _ (by omega), Int.add_comm, Int.add_mul_ediv_right _ _ (by omega), Int.ediv_eq_zero_of_lt (by omega) (by omega)]
    omega
  have e2 : Int.fmod (p + (d + 1)) (cs.length + 1) = r := by
    rw [h, Int.fmod_eq_emod_of_nonneg _ (by omega), Int.add_comm, Int.add_mul_emod_self_right, Int.emod_eq_of_lt (by omega) (by omega)]
  have e3 : ((c : Int) + (a : Int)).toNat = c + a := by omega
  simp only [insL, e1, e2, e3, Int.toNat_natCast]
  rfl
theorem step_ex (p d : Int) (n : Nat) (h : 0 ≤ p + (d + 1)) : ∃ a r : Nat, p + (d + 1) = (a : Int) * (n + 1) + r ∧ r ≤ n := by
  refine ⟨((p + (d + 1)) / ((n : Int) + 1)).toNat, ((p + (d + 1)) % ((n : Int) + 1)).toNat, ?_, ?_⟩
  · rw [Int.toNat_of_nonneg (Int.ediv_nonneg h (by omega)), Int.toNat_of_nonneg (Int.emod_nonneg _ (by omega)), Int.mul_comm]
    exact (Int.mul_ediv_add_emod _ _).symm
  · have := Int.emod_lt_of_pos (p + (d + 1)) (b := (n : Int) + 1) (by omega)
    omega
theorem shift_eq {c p p' d d' : Int} {cs : List Nat} {ds : List Int} (h : p + d = p' + d') : insL (d :: ds) c p cs = insL (d' :: ds) c p' cs := by
  have : p + (d + 1) = p' + (d' + 1) := by omega
  simp only [insL, this]
theorem ins_len : ∀ (ns : List Int) (c p : Int) (cs : List Nat), 0 ≤ p + 1 → (∀ n ∈ ns, 0 ≤ n) → 0 ≤ c → (insL ns c p cs).length = cs.length + ns.length
  | [], _, _, _, _, _, _ => rfl
  | d :: ds, c, p, cs, hp, hn, hc => by
    have hd := hn d (.head _)
    obtain ⟨a, r, h, hr⟩ := step_ex p d cs.length (by omega)
    obtain ⟨c, rfl⟩ := Int.eq_ofNat_of_zero_le hc
    show (insL (d :: ds) (c : Int) p cs).length = _
    rw [step_eq h hr, ins_len ds _ _ _ (by omega) (fun n h => hn n (.tail _ h)) (by omega), put_len hr, List.length_cons]
    omega
theorem ins_mem : ∀ (ns : List Int) (c : Nat) (p : Int) (cs : List Nat), -1 ≤ p → (∀ n ∈ ns, 0 ≤ n) → ∀ y ∈ cs, y ∈ insL ns c p cs
  | [], _, _, _, _, _, _, h => h
  | d :: ds, c, p, cs, hp, hn, y, hy => by
    have hd := hn d (.head _)
    obtain ⟨a, r, h, hr⟩ := step_ex p d cs.length (by omega)
    rw [step_eq h hr]
    exact ins_mem ds _ _ _ (by omega) (fun n h => hn n (.tail _ h)) y (put_mem.mpr (.inr hy))
theorem ins_filter (f : Nat → Bool) (hf : ∀ v, 128 ≤ v → f v = false) : ∀ (ns : List Int) (c : Nat) (p : Int) (cs : List Nat), -1 ≤ p → (∀ n ∈ ns, 0 ≤ n) → 128 ≤ c → (insL ns c p cs).filter f = cs.filter f
  | [], _, _, _, _, _, _ => rfl
  | d :: ds, c, p, cs, hp, hn, hc => by
    have hd := hn d (.head _)
    obtain ⟨a, r, h, hr⟩ := step_ex p d cs.length (by omega)
    rw [step_eq h hr, ins_filter f hf ds _ _ _ (by omega) (fun n h => hn n (.tail _ h)) (by omega), put_filter f (hf _ (by omega))]
theorem ins_head : ∀ (ns : List Int) (c : Nat) (p : Int) (y : Nat) (t : List Nat) (z : Nat) (w : List Nat), -1 ≤ p → (∀ n ∈ ns, 0 ≤ n) → insL ns c p (y :: t) = z :: w → z = y ∨ c ≤ z
  | [], _, _, _, _, _, _, _, _, h => by simp only [insL, List.cons.injEq] at h; exact .inl h.1.symm
  | d :: ds, c, p, y, t, z, w, hp, hn, e => by
    have hd := hn d (.head _)
    obtain ⟨a, r, h, hr⟩ := step_ex p d (y :: t).length (by omega)
    rw [step_eq h hr] at e
    have hn' : ∀ n ∈ ds, 0 ≤ n := fun n h => hn n (.tail _ h)
    cases r with
    | zero =>
      rw [put_zero] at e
      have := ins_head ds _ _ _ _ _ _ (by omega) hn' e
      omega
    | succ r =>
      rw [put_succ] at e
      have := ins_head ds _ _ _ _ _ _ (by omega) hn' e
      omega
theorem sim : ∀ (ns : List Int) (c : Nat) (p : Int) (c0 : Nat) (t w : List Nat), (∀ n ∈ ns, 0 ≤ n) → -1 ≤ p → c0 ≤ c → (c0 < c ∨ 0 ≤ p) → insL ns c p (c0 :: t) = c0 :: w → insL ns c (p - 1) (t ++ [c0]) = w ++ [c0]
  | [], _, _, _, _, _, _, _, _, _, h => by simp only [insL, List.cons.injEq, true_and] at h; rw [← h]; rfl
  | d :: ds, c, p, c0, t, w, hn, hp, hc, hcp, e => by
    have hd := hn d (.head _)
    have hn' : ∀ n ∈ ds, 0 ≤ n := fun n h => hn n (.tail _ h)
    obtain ⟨a, r, h, hr⟩ := step_ex p d (c0 :: t).length (by omega)
    rw [step_eq h hr] at e
    cases r with
    | zero =>
      rw [put_zero] at e
      have h1 := ins_head ds _ _ _ _ _ _ (by omega) hn' e
      have ha : a = 0 := by omega
      subst ha
      simp only [Int.ofNat_zero, Int.zero_mul] at h
      omega
    | succ r =>
      rw [put_succ] at e
      have hr' : r ≤ t.length := by simp only [List.length_cons] at hr; omega
      have h2 : p - 1 + (d + 1) = (a : Int) * ((t ++ [c0]).length + 1) + r := by
        rw [show (t ++ [c0]).length = (c0 :: t).length by simp]
        omega
      rw [step_eq h2 (by simp only [List.length_append, List.length_cons, List.length_nil]; omega), put_app hr']
      have := sim ds _ _ _ _ _ hn' (by omega) (by omega) (.inr (by omega)) e
      rw [show ((r + 1 : Nat) : Int) - 1 = (r : Int) by omega] at this
      exact this
theorem turn_plain {n0 : Int} {nt : List Int} {c0 : Nat} {t w : List Nat} (hn : ∀ n ∈ n0 :: nt, 0 ≤ n) (hc : c0 < 128) (h : insL (n0 :: nt) 128 (-1) (c0 :: t) = c0 :: w) :
    insL ((n0 - 1) :: nt) 128 (-1) (t ++ [c0]) = w ++ [c0] ∧ 0 ≤ n0 - 1 := by
  constructor
  · have := sim (n0 :: nt) 128 (-1) c0 t w hn (by omega) (by omega) (.inl hc) h
    rw [← this]
    exact shift_eq (by omega)
  · have h0 := hn n0 (.head _)
    rcases Int.lt_or_le 0 n0 with q | q
    · omega
    · have hz : n0 = 0 := by omega
      subst hz
      have h1 : (-1 : Int) + (0 + 1) = ((0 : Nat) : Int) * ((c0 :: t).length + 1) + ((0 : Nat) : Int) := by simp
      have h' : insL (0 :: nt) ((128 : Nat) : Int) (-1) (c0 :: t) = c0 :: w := h
      rw [step_eq h1 (Nat.zero_le _), put_zero] at h'
      have := ins_head nt _ _ _ _ _ _ (by omega) (fun n q => hn n (.tail _ q)) h'
      omega
/-- the codes that the numbers lay -/
def cdsN : List Int → Nat → Int → Nat → List Nat
  | [], _, _, _ => []
  | d :: ds, c, p, n => (c + (Int.fdiv (p + (d + 1)) (n + 1)).toNat) :: cdsN ds (c + (Int.fdiv (p + (d + 1)) (n + 1)).toNat) (Int.fmod (p + (d + 1)) (n + 1)) (n + 1)
theorem cds_eq {c a r : Nat} {p d : Int} {n : Nat} {ds : List Int} (h : p + (d + 1) = (a : Int) * (n + 1) + r) (hr : r ≤ n) : cdsN (d :: ds) c p n = (c + a) :: cdsN ds (c + a) (r : Int) (n + 1) := by
  have e1 : Int.fdiv (p + (d + 1)) (n + 1) = a := by
    rw [h, Int.fdiv_eq_ediv_of_nonneg _ (by omega), Int.add_comm, Int.add_mul_ediv_right _ _ (by omega), Int.ediv_eq_zero_of_lt (by omega) (by omega)]
    omega
  have e2 : Int.fmod (p + (d + 1)) (n + 1) = r := by
    rw [h, Int.fmod_eq_emod_of_nonneg _ (by omega), Int.add_comm, Int.add_mul_emod_self_right, Int.emod_eq_of_lt (by omega) (by omega)]
  simp only [cdsN, e1, e2, Int.toNat_natCast]
theorem cds_ge : ∀ (ns : List Int) (c : Nat) (p : Int) (n : Nat), -1 ≤ p → (∀ m ∈ ns, 0 ≤ m) → (∀ y ∈ cdsN ns c p n, c ≤ y) ∧ (cdsN ns c p n).Pairwise (· ≤ ·)
  | [], _, _, _, _, _ => ⟨fun _ h => (nomatch h), .nil⟩
  | d :: ds, c, p, n, hp, hn => by
    have hd := hn d (.head _)
    obtain ⟨a, r, h, hr⟩ := step_ex p d n (by omega)
    rw [cds_eq h hr]
    have ih := cds_ge ds (c + a) r (n + 1) (by omega) fun n h => hn n (.tail _ h)
    refine ⟨fun y hy => ?_, List.pairwise_cons.mpr ⟨ih.1, ih.2⟩⟩
    rcases List.mem_cons.mp hy with rfl | hy
    · omega
    · have := ih.1 y hy; omega
theorem cds_perm : ∀ (ns : List Int) (c : Nat) (p : Int) (cs : List Nat), -1 ≤ p → (∀ m ∈ ns, 0 ≤ m) → (insL ns c p cs).Perm (cdsN ns c p cs.length ++ cs)
  | [], _, _, _, _, _ => .refl _
  | d :: ds, c, p, cs, hp, hn => by
    have hd := hn d (.head _)
    obtain ⟨a, r, h, hr⟩ := step_ex p d cs.length (by omega)
    rw [step_eq h hr, cds_eq h hr]
    have ih := cds_perm ds (c + a) r (put r (c + a) cs) (by omega) fun n h => hn n (.tail _ h)
    rw [put_len hr] at ih
    refine ih.trans ?_
    refine ((put_perm r (c + a) cs).append_left _).trans ?_
    exact List.perm_middle
theorem head_gen : ∀ (ds : List Int) (c0 : Nat) (p : Int) (z : Nat) (t w : List Nat), (∀ m ∈ ds, 0 ≤ m) → 1 ≤ p → z < c0 → insL ds c0 p (z :: t) = c0 :: w → False
  | [], _, _, _, _, _, _, _, hz, e => by simp only [insL, List.cons.injEq] at e; omega
  | d :: ds, c0, p, z, t, w, hn, hp, hz, e => by
    have hd := hn d (.head _)
    have hn' : ∀ n ∈ ds, 0 ≤ n := fun n h => hn n (.tail _ h)
    obtain ⟨a, r, h, hr⟩ := step_ex p d (z :: t).length (by omega)
    rw [step_eq h hr] at e
    cases r with
    | zero =>
      rw [put_zero] at e
      have h1 := ins_head ds _ _ _ _ _ _ (by omega) hn' e
      have ha : a = 0 := by omega
      subst ha
      simp only [Int.ofNat_zero, Int.zero_mul] at h
      omega
    | succ r =>
      rw [put_succ] at e
      by_cases ha : a = 0
      · subst ha
        exact head_gen ds c0 _ z _ w hn' (by omega) hz e
      · have h1 := ins_head ds _ _ _ _ _ _ (by omega) hn' e
        omega
theorem block : ∀ (ds : List Int) (c0 : Nat) (p : Int) (y w : List Nat), (∀ m ∈ ds, 0 ≤ m) → 0 ≤ p → p ≤ y.length → insL ds c0 p (c0 :: y) = c0 :: w →
    0 ≤ (y.length : Int) - p - (ds.take ((cdsN ds c0 p (y.length + 1)).count c0)).sum ∧
    p + (ds.take ((cdsN ds c0 p (y.length + 1)).count c0) ++ [(y.length : Int) - p - (ds.take ((cdsN ds c0 p (y.length + 1)).count c0)).sum]).getD 0 0 ≤ y.length ∧
    (∀ m ∈ lastL ((y.length : Int) - p - (ds.take ((cdsN ds c0 p (y.length + 1)).count c0)).sum) (ds.drop ((cdsN ds c0 p (y.length + 1)).count c0)), 0 ≤ m) ∧
    insL (ds.take ((cdsN ds c0 p (y.length + 1)).count c0) ++ ((y.length : Int) - p - (ds.take ((cdsN ds c0 p (y.length + 1)).count c0)).sum) :: lastL ((y.length : Int) - p - (ds.take ((cdsN ds c0 p (y.length + 1)).count c0)).sum) (ds.drop ((cdsN ds c0 p (y.length + 1)).count c0))) c0 (p - 1) y = w ++ [c0]
  | [], c0, p, y, w, _, hp, hy, e => by
    simp only [insL, List.cons.injEq, true_and] at e
    subst e
    simp only [cdsN, List.count_nil, List.take_nil, List.sum_nil, List.drop_nil, lastL, List.nil_append, List.getD_cons_zero, List.not_mem_nil, false_imp_iff, implies_true, true_and, Int.sub_zero]
    refine ⟨by omega, by omega, ?_⟩
    have h1 : p - 1 + ((y.length : Int) - p + 1) = ((0 : Nat) : Int) * (y.length + 1) + (y.length : Nat) := by simp; omega
    rw [step_eq h1 (Nat.le_refl _), put_end]
    rfl
  | d :: ds, c0, p, y, w, hn, hp, hy, e => by
    have hd := hn d (.head _)
    have hn' : ∀ n ∈ ds, 0 ≤ n := fun n h => hn n (.tail _ h)
    obtain ⟨a, r, h, hr⟩ := step_ex p d (c0 :: y).length (by omega)
    have hcd : cdsN (d :: ds) c0 p (y.length + 1) = (c0 + a) :: cdsN ds (c0 + a) r (y.length + 1 + 1) := cds_eq h hr
    rw [hcd]
    have e' := e
    rw [step_eq h hr] at e
    by_cases ha : a = 0
    · subst ha
      simp only [Int.ofNat_zero, Int.zero_mul] at h
      cases r with
      | zero => omega
      | succ r =>
        rw [put_succ] at e
        have hr' : r ≤ y.length := by simp only [List.length_cons] at hr; omega
        have ih := block ds c0 ((r + 1 : Nat) : Int) (put r c0 y) w hn' (by omega) (by rw [put_len hr']; omega) e
        rw [put_len hr'] at ih
        simp only [Nat.add_zero, List.count_cons_self, List.take_succ_cons, List.drop_succ_cons, List.sum_cons, List.cons_append, List.getD_cons_zero]
        have el : ((y.length + 1 : Nat) : Int) - ((r + 1 : Nat) : Int) - (ds.take ((cdsN ds c0 ((r + 1 : Nat) : Int) (y.length + 1 + 1)).count c0)).sum = (y.length : Int) - p - (d + (ds.take ((cdsN ds c0 ((r + 1 : Nat) : Int) (y.length + 1 + 1)).count c0)).sum) := by omega
        rw [el] at ih
        refine ⟨ih.1, by omega, ih.2.2.1, ?_⟩
        have h1 : p - 1 + (d + 1) = ((0 : Nat) : Int) * (y.length + 1) + (r : Nat) := by simp; omega
        rw [step_eq h1 hr']
        have := ih.2.2.2
        rw [show ((r + 1 : Nat) : Int) - 1 = (r : Int) by omega] at this
        exact this
    · have hz : List.count c0 ((c0 + a) :: cdsN ds (c0 + a) r (y.length + 1 + 1)) = 0 := by
        rw [List.count_eq_zero]
        intro hm
        rcases List.mem_cons.mp hm with q | q
        · omega
        · have := (cds_ge ds (c0 + a) r (y.length + 1 + 1) (by omega) hn').1 c0 q
          omega
      rw [hz]
      simp only [List.take_zero, List.sum_nil, Int.sub_zero, List.nil_append, List.getD_cons_zero, List.drop_zero, lastL]
      have hge : (c0 :: y).length + 1 ≤ p + (d + 1) := by
        rw [h]
        have : (1 : Int) * ((c0 :: y).length + 1) ≤ (a : Int) * ((c0 :: y).length + 1) := Int.mul_le_mul_of_nonneg_right (by omega) (by omega)
        omega
      simp only [List.length_cons] at hge
      refine ⟨by omega, by omega, ?_, ?_⟩
      · intro m hm
        rcases List.mem_cons.mp hm with rfl | hm
        · omega
        · exact hn' m hm
      · have h1 : p - 1 + ((y.length : Int) - p + 1) = ((0 : Nat) : Int) * (y.length + 1) + (y.length : Nat) := by simp; omega
        rw [step_eq h1 (Nat.le_refl _), put_end]
        have := sim (d :: ds) c0 p c0 y w hn (by omega) (Nat.le_refl _) (.inr hp) e'
        rw [← this]
        exact shift_eq (by omega)
theorem tuB_succ (d : Int) (ds : List Int) (b k : Nat) (size : Int) : tuB (d :: ds) (b + 1) k size = d :: tuB ds b k (size + 1) := by
  have e : size + ((b + 1 : Nat) : Int) = size + 1 + (b : Int) := by omega
  simp only [tuB, tuW, List.drop_succ_cons, List.take_succ_cons, List.cons_append, List.getD_cons_succ, e, Nat.add_right_comm b 1 k]
theorem turn_code : ∀ (ns : List Int) (c : Nat) (p : Int) (cs : List Nat) (c0 : Nat) (w : List Nat), (∀ m ∈ ns, 0 ≤ m) → -1 ≤ p → c ≤ c0 → cs ≠ [] → (∀ y ∈ cs, y < c0) → insL ns c p cs = c0 :: w →
    insL (tuB ns ((cdsN ns c p cs.length).idxOf c0) ((cdsN ns c p cs.length).count c0) cs.length) c p cs = w ++ [c0] ∧ ∀ m ∈ tuB ns ((cdsN ns c p cs.length).idxOf c0) ((cdsN ns c p cs.length).count c0) cs.length, 0 ≤ m
  | [], c, p, cs, c0, w, hn, hp, hc, hne, hcs, e => by
    simp only [insL] at e
    have := hcs c0 (by rw [e]; exact .head _)
    omega
  | d :: ds, c, p, cs, c0, w, hn, hp, hc, hne, hcs, e => by
    have hd := hn d (.head _)
    have hn' : ∀ n ∈ ds, 0 ≤ n := fun n h => hn n (.tail _ h)
    obtain ⟨a, r, h, hr⟩ := step_ex p d cs.length (by omega)
    have hcd : cdsN (d :: ds) c p cs.length = (c + a) :: cdsN ds (c + a) r (cs.length + 1) := cds_eq h hr
    have hmem : c0 ∈ cdsN (d :: ds) c p cs.length := by
      have q := (cds_perm (d :: ds) c p cs hp hn).mem_iff (a := c0)
      rw [e] at q
      rcases List.mem_append.mp (q.mp (.head _)) with q | q
      · exact q
      · have := hcs c0 q; omega
    rw [step_eq h hr] at e
    rw [hcd] at hmem ⊢
    by_cases hq : c + a = c0
    · subst hq
      rw [List.idxOf_cons_self, List.count_cons_self]
      obtain ⟨z, t, rfl⟩ := List.exists_cons_of_ne_nil hne
      have hr0 : r = 0 := by
        cases r with
        | zero => rfl
        | succ r =>
          rw [put_succ] at e
          exact (head_gen ds (c + a) _ z _ w hn' (by omega) (hcs z (.head _)) e).elim
      subst hr0
      rw [put_zero] at e
      obtain ⟨b1, b2, b3, b4⟩ := block ds (c + a) 0 (z :: t) w hn' (by omega) (by omega) e
      simp only [Int.sub_zero] at b1 b2 b3 b4
      simp only [tuB, tuW, Nat.zero_add, List.drop_succ_cons, List.drop_zero, Nat.add_sub_cancel, List.take_zero, List.nil_append, List.getD_cons_zero, Int.ofNat_zero, Int.add_zero, Nat.add_comm 1]
      generalize ds.drop ((cdsN ds (c + a) 0 ((z :: t).length + 1)).count (c + a)) = re at *
      have hw : ∀ m ∈ ds.take ((cdsN ds (c + a) 0 ((z :: t).length + 1)).count (c + a)), 0 ≤ m := fun m hm => hn' m (List.mem_of_mem_take hm)
      generalize ds.take ((cdsN ds (c + a) 0 ((z :: t).length + 1)).count (c + a)) = wi at *
      generalize ((z :: t).length : Int) - wi.sum = la at *
      have hg0 : ∀ m ∈ wi ++ [la], 0 ≤ m := fun m hm => by
        rcases List.mem_append.mp hm with q | q
        · exact hw m q
        · rw [List.mem_singleton.mp q]; exact b1
      rw [show wi ++ la :: lastL la re = (wi ++ [la]) ++ lastL la re by simp] at b4
      obtain ⟨g, gs, hg⟩ : ∃ g gs, wi ++ [la] = g :: gs := by
        cases wi with
        | nil => exact ⟨_, _, rfl⟩
        | cons x xs => exact ⟨_, _, rfl⟩
      rw [hg] at b2 b4 hg0 ⊢
      simp only [List.getD_cons_zero, List.drop_succ_cons, List.drop_zero, List.cons_append, List.nil_append] at b2 b4 ⊢
      have hgn := hg0 g (.head _)
      refine ⟨?_, fun m hm => ?_⟩
      · have h1 : (0 - 1 : Int) + (g + 1) = ((0 : Nat) : Int) * ((z :: t).length + 1) + (g.toNat : Nat) := by simp; omega
        have h2 : p + (d + g + 1) = (a : Int) * ((z :: t).length + 1) + (g.toNat : Nat) := by
          rw [Int.toNat_of_nonneg hgn]
          omega
        rw [step_eq h1 (by omega)] at b4
        rw [step_eq h2 (by omega)]
        exact b4
      · rcases List.mem_cons.mp hm with rfl | hm
        · omega
        · rcases List.mem_append.mp hm with q | q
          · exact hg0 m (.tail _ q)
          · exact b3 m q
    · have hlt : c + a < c0 := by
        rcases List.mem_cons.mp hmem with q | q
        · exact absurd q.symm hq
        · have := (cds_ge ds (c + a) r (cs.length + 1) (by omega) hn').1 c0 q
          omega
      have ih := turn_code ds (c + a) r (put r (c + a) cs) c0 w hn' (by omega) (by omega) (by intro q; have := put_len (v := c + a) hr; rw [q] at this; simp at this) (fun y hy => by
        rcases put_mem.mp hy with rfl | q
        · exact hlt
        · exact hcs y q) e
      rw [put_len hr] at ih
      rw [List.idxOf_cons, beq_eq_false_iff_ne.mpr hq, cond_false, List.count_cons_of_ne hq, tuB_succ]
      refine ⟨?_, fun m hm => ?_⟩
      · rw [step_eq h hr]
        exact ih.1
      · rcases List.mem_cons.mp hm with rfl | hm
        · exact hd
        · exact ih.2 m hm
/-! the same signs and text: the same numbers -/
def runS : List Int → Nat → Int → List Nat → Nat × Int × List Nat
  | [], c, p, cs => (c, p, cs)
  | d :: ds, c, p, cs => runS ds (c + (Int.fdiv (p + (d + 1)) (cs.length + 1)).toNat) (Int.fmod (p + (d + 1)) (cs.length + 1)) (put (Int.fmod (p + (d + 1)) (cs.length + 1)).toNat (c + (Int.fdiv (p + (d + 1)) (cs.length + 1)).toNat) cs)
theorem run_eq {c a r : Nat} {p d : Int} {cs : List Nat} {ds : List Int} (h : p + (d + 1) = (a : Int) * (cs.length + 1) + r) (hr : r ≤ cs.length) : runS (d :: ds) c p cs = runS ds (c + a) (r : Int) (put r (c + a) cs) := by
  have e1 : Int.fdiv (p + (d + 1)) (cs.length + 1) = a := by
    rw [h, Int.fdiv_eq_ediv_of_nonneg _ (by omega), Int.add_comm, Int.add_mul_ediv_right _ _ (by omega), Int.ediv_eq_zero_of_lt (by omega) (by omega)]
    omega
  have e2 : Int.fmod (p + (d + 1)) (cs.length + 1) = r := by
    rw [h, Int.fmod_eq_emod_of_nonneg _ (by omega), Int.add_comm, Int.add_mul_emod_self_right, Int.emod_eq_of_lt (by omega) (by omega)]
  simp only [runS, e1, e2, Int.toNat_natCast]
theorem run_ins : ∀ (ns : List Int) (c : Nat) (p : Int) (cs : List Nat), -1 ≤ p → (∀ m ∈ ns, 0 ≤ m) → insL ns c p cs = (runS ns c p cs).2.2
  | [], _, _, _, _, _ => rfl
  | d :: ds, c, p, cs, hp, hn => by
    have hd := hn d (.head _)
    obtain ⟨a, r, h, hr⟩ := step_ex p d cs.length (by omega)
    rw [step_eq h hr, run_eq h hr]
    exact run_ins ds _ _ _ (by omega) fun n h => hn n (.tail _ h)
theorem run_app : ∀ (ns ms : List Int) (c : Nat) (p : Int) (cs : List Nat), runS (ns ++ ms) c p cs = runS ms (runS ns c p cs).1 (runS ns c p cs).2.1 (runS ns c p cs).2.2
  | [], _, _, _, _ => rfl
  | d :: ds, ms, c, p, cs => by
    simp only [List.cons_append, runS]
    exact run_app ds ms _ _ _
/-- what holds on the way: no sign is above the code, and behind the place all are below it -/
def Way (c : Nat) (p : Int) (cs : List Nat) : Prop := -1 ≤ p ∧ (∀ y ∈ cs, y ≤ c) ∧ ∀ y ∈ cs.drop (p + 1).toNat, y < c
theorem put_drop {r v : Nat} {cs : List Nat} (h : r ≤ cs.length) : (put r v cs).drop (r + 1) = cs.drop r := by
  unfold put
  rw [List.drop_append, List.length_take, Nat.min_eq_left h, List.drop_of_length_le (by rw [List.length_take]; omega), show r + 1 - r = 1 by omega]
  rfl
theorem put_get {r v : Nat} {cs : List Nat} (h : r ≤ cs.length) : (put r v cs)[r]? = some v := by
  unfold put
  rw [List.getElem?_append_right (by rw [List.length_take]; omega), List.length_take, Nat.min_eq_left h, Nat.sub_self]
  rfl
theorem way_step {c a r : Nat} {p d : Int} {cs : List Nat} (W : Way c p cs) (hd : 0 ≤ d) (h : p + (d + 1) = (a : Int) * (cs.length + 1) + r) (hr : r ≤ cs.length) : Way (c + a) r (put r (c + a) cs) := by
  obtain ⟨w1, w2, w3⟩ := W
  refine ⟨by omega, fun y hy => ?_, fun y hy => ?_⟩
  · rcases put_mem.mp hy with rfl | q
    · exact Nat.le_refl _
    · have := w2 y q; omega
  · rw [show ((r : Int) + 1).toNat = r + 1 by omega, put_drop hr] at hy
    by_cases ha : a = 0
    · subst ha
      simp only [Int.ofNat_zero, Int.zero_mul] at h
      refine w3 y ?_
      have hle : (p + 1).toNat ≤ r := by omega
      obtain ⟨k, hk⟩ := Nat.le.dest hle
      rw [← hk, ← List.drop_drop] at hy
      exact List.mem_of_mem_drop hy
    · have := w2 y (List.mem_of_mem_drop hy)
      omega
theorem run_way : ∀ (ns : List Int) (c : Nat) (p : Int) (cs : List Nat), Way c p cs → (∀ m ∈ ns, 0 ≤ m) → Way (runS ns c p cs).1 (runS ns c p cs).2.1 (runS ns c p cs).2.2
  | [], _, _, _, W, _ => W
  | d :: ds, c, p, cs, W, hn => by
    have hd := hn d (.head _)
    obtain ⟨a, r, h, hr⟩ := step_ex p d cs.length (by have := W.1; omega)
    rw [run_eq h hr]
    exact run_way ds _ _ _ (way_step W hd h hr) fun n h => hn n (.tail _ h)
theorem last_one {x : List Nat} {r r' v v' : Nat} (h : x[r]? = some v) (h' : x[r']? = some v') (a : ∀ y ∈ x, y ≤ v) (a' : ∀ y ∈ x, y ≤ v') (b : ∀ y ∈ x.drop (r + 1), y < v) (b' : ∀ y ∈ x.drop (r' + 1), y < v') : r = r' ∧ v = v' := by
  have e : v = v' := Nat.le_antisymm (a' v (List.mem_of_getElem? h)) (a v' (List.mem_of_getElem? h'))
  subst e
  refine ⟨?_, rfl⟩
  rcases Nat.lt_trichotomy r r' with q | q | q
  · exfalso
    obtain ⟨k, hk⟩ := Nat.le.dest (show r + 1 ≤ r' from q)
    have := b v (List.mem_of_getElem? (i := k) (by rw [List.getElem?_drop, hk]; exact h'))
    omega
  · exact q
  · exfalso
    obtain ⟨k, hk⟩ := Nat.le.dest (show r' + 1 ≤ r from q)
    have := b' v (List.mem_of_getElem? (i := k) (by rw [List.getElem?_drop, hk]; exact h))
    omega
theorem put_erase {r v : Nat} {cs : List Nat} (h : r ≤ cs.length) : (put r v cs).eraseIdx r = cs := by
  unfold put
  rw [List.eraseIdx_append_of_length_le (by rw [List.length_take]; omega), List.length_take, Nat.min_eq_left h, Nat.sub_self]
  simp
theorem run_inj (c : Nat) (p : Int) (cs : List Nat) (W : Way c p cs) : ∀ (k : Nat) (ns ms : List Int), ns.length = k → ms.length = k → (∀ m ∈ ns, 0 ≤ m) → (∀ m ∈ ms, 0 ≤ m) → (runS ns c p cs).2.2 = (runS ms c p cs).2.2 → ns = ms ∧ runS ns c p cs = runS ms c p cs := by
  intro k
  induction k with
  | zero =>
    intro ns ms h1 h2 _ _ _
    rw [List.length_eq_zero_iff.mp h1, List.length_eq_zero_iff.mp h2]
    exact ⟨rfl, rfl⟩
  | succ k ih =>
    intro ns ms h1 h2 hn hm e
    obtain ⟨ns', d, rfl⟩ : ∃ ns' d, ns = ns' ++ [d] := ⟨ns.dropLast, ns.getLast (by intro q; rw [q] at h1; cases h1), (List.dropLast_concat_getLast _).symm⟩
    obtain ⟨ms', d', rfl⟩ : ∃ ms' d, ms = ms' ++ [d] := ⟨ms.dropLast, ms.getLast (by intro q; rw [q] at h2; cases h2), (List.dropLast_concat_getLast _).symm⟩
    have hd := hn d (by simp)
    have hd' := hm d' (by simp)
    have hns : ∀ m ∈ ns', 0 ≤ m := fun m q => hn m (List.mem_append_left _ q)
    have hms : ∀ m ∈ ms', 0 ≤ m := fun m q => hm m (List.mem_append_left _ q)
    have W1 := run_way ns' c p cs W hns
    have W2 := run_way ms' c p cs W hms
    rw [run_app, run_app] at e ⊢
    have ih' := ih ns' ms' (by simpa using h1) (by simpa using h2) hns hms
    generalize runS ns' c p cs = s1 at *
    generalize runS ms' c p cs = s2 at *
    obtain ⟨c1, p1, x1⟩ := s1
    obtain ⟨c2, p2, x2⟩ := s2
    simp only at W1 W2 e ih' ⊢
    obtain ⟨a1, r1, t1, hr1⟩ := step_ex p1 d x1.length (by have := W1.1; omega)
    obtain ⟨a2, r2, t2, hr2⟩ := step_ex p2 d' x2.length (by have := W2.1; omega)
    rw [run_eq t1 hr1, run_eq t2 hr2] at e ⊢
    simp only [runS] at e ⊢
    have Y1 := way_step W1 hd t1 hr1
    have Y2 := way_step W2 hd' t2 hr2
    rw [← e] at Y2
    have g1 := put_get (v := c1 + a1) hr1
    have g2 := put_get (v := c2 + a2) hr2
    rw [← e] at g2
    have b1 := Y1.2.2
    have b2 := Y2.2.2
    rw [show ((r1 : Int) + 1).toNat = r1 + 1 by omega] at b1
    rw [show ((r2 : Int) + 1).toNat = r2 + 1 by omega] at b2
    obtain ⟨er, ev⟩ := last_one g1 g2 Y1.2.1 Y2.2.1 b1 b2
    subst er
    have ex : x1 = x2 := by rw [← put_erase (v := c1 + a1) hr1, e, put_erase hr2]
    subst ex
    obtain ⟨q1, q2⟩ := ih' rfl
    simp only [Prod.mk.injEq] at q2
    obtain ⟨rfl, rfl, -⟩ := q2
    have ea : a1 = a2 := by omega
    subst ea
    have ed : d = d' := by omega
    subst ed
    rw [q1]
    exact ⟨rfl, rfl⟩
/-- how great the numbers can be -/
theorem sum_bound (L M : Nat) : ∀ (ns : List Int) (c : Nat) (p : Int) (cs : List Nat), (∀ m ∈ ns, 0 ≤ m) → -1 ≤ p → p ≤ cs.length → cs.length + ns.length ≤ L → c ≤ M → (∀ y ∈ insL ns c p cs, y ≤ M) → (ns.map (· + 1)).sum ≤ (L : Int) * ((M : Int) - c) + L - p
  | [], c, p, cs, _, hp, hp2, hl, hc, _ => by
    have : 0 ≤ (L : Int) * ((M : Int) - c) := Int.mul_nonneg (by omega) (by omega)
    simp only [List.length_nil, List.map_nil, List.sum_nil] at hl ⊢
    omega
  | d :: ds, c, p, cs, hn, hp, hp2, hl, hc, hM => by
    have hd := hn d (.head _)
    have hn' : ∀ n ∈ ds, 0 ≤ n := fun n h => hn n (.tail _ h)
    obtain ⟨a, r, h, hr⟩ := step_ex p d cs.length (by omega)
    rw [step_eq h hr] at hM
    have hq : c + a ≤ M := hM _ (ins_mem ds _ _ _ (by omega) hn' _ (put_mem.mpr (.inl rfl)))
    simp only [List.length_cons] at hl
    have ih := sum_bound L M ds (c + a) r (put r (c + a) cs) hn' (by omega) (by rw [put_len hr]; omega) (by rw [put_len hr]; omega) hq hM
    have h1 : (a : Int) * (cs.length + 1) ≤ (a : Int) * L := Int.mul_le_mul_of_nonneg_left (by omega) (by omega)
    have h2 : (L : Int) * ((M : Int) - c) = (L : Int) * ((M : Int) - ((c + a : Nat) : Int)) + (a : Int) * L := by
      rw [Int.mul_comm (a : Int), ← Int.mul_add]
      congr 1
      omega
    simp only [List.map_cons, List.sum_cons]
    omega
theorem le_sum : ∀ (ns : List Int), (∀ m ∈ ns, 0 ≤ m) → ∀ n ∈ ns, n + 1 ≤ (ns.map (· + 1)).sum
  | m :: ms, h, n, hn => by
    have h0 := h m (.head _)
    have hs := sum_nonneg ms fun x q => h x (.tail _ q)
    simp only [List.map_cons, List.sum_cons]
    rcases List.mem_cons.mp hn with rfl | q
    · omega
    · have := le_sum ms (fun x q => h x (.tail _ q)) n q
      omega
/-- the codes are bounded by the numbers -/
theorem code_bound : ∀ (ns : List Int) (c : Nat) (p : Int) (cs : List Nat) (M : Nat), (∀ m ∈ ns, 0 ≤ m) → -1 ≤ p → p ≤ cs.length → (∀ y ∈ cs, y ≤ M) → (c : Int) + (ns.map (· + 1)).sum ≤ M → ∀ y ∈ insL ns c p cs, y ≤ M
  | [], _, _, _, _, _, _, _, h, _ => h
  | d :: ds, c, p, cs, M, hn, hp, hp2, hcs, hM => by
    have hd := hn d (.head _)
    have hn' : ∀ n ∈ ds, 0 ≤ n := fun n h => hn n (.tail _ h)
    obtain ⟨a, r, h, hr⟩ := step_ex p d cs.length (by omega)
    rw [step_eq h hr]
    simp only [List.map_cons, List.sum_cons] at hM
    have hs := sum_nonneg ds hn'
    have ha : (a : Int) ≤ d + 1 := by
      rcases Int.lt_or_le (d + 1) a with q | q
      · exfalso
        have h1 : ((d + 2) : Int) * (cs.length + 1) ≤ (a : Int) * (cs.length + 1) := Int.mul_le_mul_of_nonneg_right (by omega) (by omega)
        have h2 : 0 ≤ d * (cs.length : Int) := Int.mul_nonneg hd (by omega)
        rw [Int.add_mul, Int.mul_add] at h1
        omega
      · exact q
    refine code_bound ds (c + a) r (put r (c + a) cs) M hn' (by omega) (by rw [put_len hr]; omega) (fun y hy => ?_) (by push_cast; omega)
    rcases put_mem.mp hy with rfl | q
    · omega
    · exact hcs y q

/-! part WH -/
/-- signs, numbers and the text that they stand for -/
def Wh (P : List Nat) (ns : List Int) (x : List Nat) : Prop :=
  insL ns 128 (-1) P = x ∧ (∀ n ∈ ns, 0 ≤ n) ∧ (∀ y ∈ P, y < 128) ∧ P ≠ [] ∧ P.length + ns.length ≤ 6 ∧ ns ≠ [] ∧ ∀ y ∈ x, y ≤ 30000
theorem Wh.mk {P : List Nat} {ns : List Int} {x : List Nat} (h1 : insL ns 128 (-1) P = x) (h2 : ∀ n ∈ ns, 0 ≤ n) (h3 : ∀ y ∈ P, y < 128) (h4 : P ≠ []) (h5 : P.length + ns.length ≤ 6) (h6 : ns ≠ []) (h7 : ∀ y ∈ x, y ≤ 30000) : Wh P ns x := And.intro h1 ⟨h2, h3, h4, h5, h6, h7⟩
theorem Wh.eq {P : List Nat} {ns : List Int} {x : List Nat} (h : Wh P ns x) : insL ns 128 (-1) P = x := And.left h
theorem Wh.nn {P : List Nat} {ns : List Int} {x : List Nat} (h : Wh P ns x) : ∀ n ∈ ns, 0 ≤ n := And.left (And.right h)
theorem Wh.pl {P : List Nat} {ns : List Int} {x : List Nat} (h : Wh P ns x) : ∀ y ∈ P, y < 128 := And.left (And.right (And.right h))
theorem Wh.ne {P : List Nat} {ns : List Int} {x : List Nat} (h : Wh P ns x) : P ≠ [] := And.left (And.right (And.right (And.right h)))
theorem Wh.len {P : List Nat} {ns : List Int} {x : List Nat} (h : Wh P ns x) : P.length + ns.length ≤ 6 := And.left (And.right (And.right (And.right (And.right h))))
theorem Wh.some {P : List Nat} {ns : List Int} {x : List Nat} (h : Wh P ns x) : ns ≠ [] := And.left (And.right (And.right (And.right (And.right (And.right h)))))
theorem Wh.bd {P : List Nat} {ns : List Int} {x : List Nat} (h : Wh P ns x) : ∀ y ∈ x, y ≤ 30000 := And.right (And.right (And.right (And.right (And.right (And.right h)))))
theorem cds_len : ∀ (ns : List Int) (c : Nat) (p : Int) (n : Nat), (cdsN ns c p n).length = ns.length
  | [], _, _, _ => rfl
  | d :: ds, c, p, n => by simp only [cdsN, List.length_cons, cds_len ds]
theorem sorted_eq : ∀ {a b : List Int}, a.Pairwise (· ≤ ·) → b.Pairwise (· ≤ ·) → a.Perm b → a = b
  | [], b, _, _, h => (List.Perm.nil_eq h)
  | x :: xs, [], _, _, h => (List.Perm.eq_nil h)
  | x :: xs, y :: ys, ha, hb, h => by
    have hx : x = y := by
      have h1 : y ≤ x := by
        rcases List.mem_cons.mp (h.mem_iff.mp (.head _)) with q | q
        · omega
        · exact (List.pairwise_cons.mp hb).1 x q
      have h2 : x ≤ y := by
        rcases List.mem_cons.mp (h.mem_iff.mpr (.head _)) with q | q
        · omega
        · exact (List.pairwise_cons.mp ha).1 y q
      omega
    subst hx
    rw [sorted_eq (List.pairwise_cons.mp ha).2 (List.pairwise_cons.mp hb).2 (List.Perm.cons_inv h)]
theorem idx_cast (c : Nat) : ∀ l : List Nat, (l.map fun y : Nat => (y : Int)).idxOf (c : Int) = l.idxOf c ∧ (l.map fun y : Nat => (y : Int)).count (c : Int) = l.count c
  | [] => ⟨rfl, rfl⟩
  | y :: l => by
    obtain ⟨h1, h2⟩ := idx_cast c l
    simp only [List.map_cons, List.idxOf_cons, List.count_cons, h1, h2]
    by_cases e : y = c
    · subst e; simp
    · have e1 : (y == c) = false := beq_eq_false_iff_ne.mpr e
      have e2 : ((y : Int) == (c : Int)) = false := beq_eq_false_iff_ne.mpr (by omega)
      rw [e1, e2]; simp
namespace Wh
variable {P : List Nat} {ns : List Int} {x : List Nat}
theorem xlen (h : Wh P ns x) : x.length = P.length + ns.length := by
  rw [← h.eq]
  exact ins_len ns 128 (-1) P (by omega) h.nn (by omega)
theorem sum (h : Wh P ns x) : (ns.map (· + 1)).sum ≤ 200000 := by
  have := sum_bound 6 30000 ns 128 (-1) P h.nn (by omega) (by omega) h.len (by omega) (by have := h.bd; rw [← h.eq] at this; exact this)
  omega
theorem small (h : Wh P ns x) : ∀ n ∈ ns, 0 ≤ n ∧ n < 2 ^ 20 - 1 := fun n hn => by
  have h1 := le_sum ns h.nn n hn
  have h2 := h.sum
  exact ⟨h.nn n hn, by omega⟩
theorem codes (h : Wh P ns x) : (codesI x).Perm ((cdsN ns 128 (-1) P.length).map fun y : Nat => (y : Int)) := by
  have hp := cds_perm ns 128 (-1) P (by omega) h.nn
  have hp' : x.Perm (cdsN ns 128 (-1) P.length ++ P) := by rw [← h.eq]; exact hp
  unfold codesI
  refine ((hp'.filter _).map _).trans ?_
  rw [List.filter_append]
  have e1 : (cdsN ns 128 (-1) P.length).filter (fun c : Nat => decide (127 < (c : Int))) = cdsN ns 128 (-1) P.length := List.filter_eq_self.mpr fun y hy => by
    have := (cds_ge ns 128 (-1) P.length (by omega) h.nn).1 y hy
    simp only [decide_eq_true_eq]
    omega
  have e2 : P.filter (fun c : Nat => decide (127 < (c : Int))) = [] := List.filter_eq_nil_iff.mpr fun y hy => by
    have := h.pl y hy
    simp only [decide_eq_true_eq]
    omega
  rw [e1, e2, List.append_nil]
theorem codes_len (h : Wh P ns x) : (codesI x).length = ns.length := by
  rw [h.codes.length_eq, List.length_map, cds_len]
theorem plain_eq (h : Wh P ns x) : x.filter (fun y => decide (y < 128)) = P := by
  rw [← h.eq]
  have := ins_filter (fun y => decide (y < 128)) (fun v hv => by simp only [decide_eq_false_iff_not]; omega) ns 128 (-1) P (by omega) h.nn (by omega)
  rw [show ((128 : Nat) : Int) = 128 from rfl] at this
  rw [this]
  exact List.filter_eq_self.mpr fun y hy => by have := h.pl y hy; simpa using this
theorem turnA {c : Nat} {w : List Nat} (h : Wh P ns (c :: w)) (hc : c < 128) : ∃ P' n0 nt, P = c :: P' ∧ ns = n0 :: nt ∧ Wh (P' ++ [c]) ((n0 - 1) :: nt) (w ++ [c]) := by
  have hp := h.plain_eq
  rw [List.filter_cons, if_pos (by simpa using hc)] at hp
  obtain ⟨n0, nt, rfl⟩ := List.exists_cons_of_ne_nil h.some
  subst hp
  refine ⟨_, n0, nt, rfl, rfl, ?_⟩
  obtain ⟨t1, t2⟩ := turn_plain h.nn hc h.eq
  refine Wh.mk t1 (fun n hn => ?_) (fun y hy => ?_) (by simp) ?_ (by simp) (fun y hy => ?_)
  · rcases List.mem_cons.mp hn with rfl | q
    · exact t2
    · exact h.nn n (.tail _ q)
  · refine h.pl y ?_
    rcases List.mem_append.mp hy with q | q
    · exact .tail _ q
    · rw [List.mem_singleton.mp q]; exact .head _
  · have := h.len
    simp only [List.length_append, List.length_cons, List.length_nil] at this ⊢
    omega
  · refine h.bd y ?_
    rcases List.mem_append.mp hy with q | q
    · exact .tail _ q
    · rw [List.mem_singleton.mp q]; exact .head _
theorem turnB {c : Nat} {w : List Nat} {cd : List Int} (h : Wh P ns (c :: w)) (hc : 128 ≤ c) (hp : cd.Perm (codesI (c :: w))) (hs : cd.Pairwise (· ≤ ·)) : Wh P (tuB ns (cd.idxOf (c : Int)) (cd.count (c : Int)) P.length) (w ++ [c]) := by
  have hcd : cd = (cdsN ns 128 (-1) P.length).map fun y : Nat => (y : Int) := sorted_eq hs (by
    rw [List.pairwise_map]
    exact ((cds_ge ns 128 (-1) P.length (by omega) h.nn).2).imp fun q => by omega) (hp.trans h.codes)
  have ic := idx_cast c (cdsN ns 128 (-1) P.length)
  rw [hcd, ic.1, ic.2]
  obtain ⟨t1, t2⟩ := turn_code ns 128 (-1) P c w h.nn (by omega) hc h.ne (fun y hy => by have := h.pl y hy; omega) h.eq
  have hl := ins_len (tuB ns ((cdsN ns 128 (-1) P.length).idxOf c) ((cdsN ns 128 (-1) P.length).count c) P.length) 128 (-1) P (by omega) t2 (by omega)
  have t1' : insL (tuB ns ((cdsN ns 128 (-1) P.length).idxOf c) ((cdsN ns 128 (-1) P.length).count c) P.length) 128 (-1) P = w ++ [c] := t1
  rw [t1'] at hl
  have hx := h.xlen
  simp only [List.length_append, List.length_cons, List.length_nil] at hl hx
  have h1 := h.len
  have h2 : 0 < ns.length := List.length_pos_iff.mpr h.some
  refine Wh.mk t1 t2 h.pl h.ne (by omega) (fun q => by rw [q] at hl; simp only [List.length_nil] at hl; omega) (fun y hy => h.bd y ?_)
  rcases List.mem_append.mp hy with q | q
  · exact .tail _ q
  · rw [List.mem_singleton.mp q]; exact .head _
theorem same {P' : List Nat} {ns' : List Int} (h : Wh P ns x) (h' : Wh P' ns' x) : P' = P ∧ ns' = ns := by
  have hP : P' = P := by rw [← h.plain_eq, ← h'.plain_eq]
  subst hP
  refine ⟨rfl, ?_⟩
  have l1 := h.xlen
  have l2 := h'.xlen
  have r1 := run_ins ns 128 (-1) P' (by omega) h.nn
  have r2 := run_ins ns' 128 (-1) P' (by omega) h'.nn
  refine (run_inj 128 (-1) P' ⟨by omega, fun y hy => ?_, fun y hy => ?_⟩ ns.length ns' ns (by omega) rfl h'.nn h.nn ?_).1
  · have := h.pl y hy; omega
  · exact h.pl y (by simpa using hy)
  · rw [← r1, ← r2]
    exact h'.eq.trans h.eq.symm
end Wh

/-! part WL0 -/
abbrev riObj (x left : Int) : Obj := { cls := .type "range_iterator", dict := none, data := .fields #[rawInt x, rawInt left, rawInt 1], slots := #[] }
section
variable {prog : Program} {w : World} {A : Around} {E : Value → Shared → Prop} {s : Shared} {h₀ : Heap} {L it : Addr} {m : Str → Option Value} {x left : Int} {news : List (Addr × Obj)}
theorem ri_item {Q : Option Value → Shared → Prop} (F : Fr h₀ L s.heap m) (N : News h₀ L s.heap ((it, riObj x left) :: news)) (hap : ∀ p ∈ news, p.1 ≠ it) (hl : 0 < left)
    (h : ∀ h' t tk, Fr h₀ L h' m → News h₀ L h' ((it, riObj (x + 1) (left - 1)) :: news) → Q (some (.int x t)) { s with heap := h', toks := tk }) : wpAny (model prog w) A (pyNext (.ref it)) Q E s := by
  have n1 := N _ (.head _)
  refine wpAny_pyNext_range_item n1.1 hl fun h' hit k => ?_
  replace k := Heap.SameBut.extBut k
  refine h h' _ _ (Fr.but F [it] (fun b hb => ?_) fun b o hb q => k b o (fun z => hb (by rw [z]; exact .head _)) q) fun p hp => ?_
  · rw [List.mem_singleton.mp hb]
    exact ⟨n1.2.2, n1.2.1⟩
  · rcases List.mem_cons.mp hp with rfl | hp
    · exact ⟨hit, n1.2⟩
    · have := N p (.tail _ hp)
      exact ⟨k _ _ (hap p hp) this.1, this.2⟩
theorem ri_end {Q : Option Value → Shared → Prop} (hh : A.handled = none) (F : Fr h₀ L s.heap m) (N : News h₀ L s.heap ((it, riObj x left) :: news)) (hap : ∀ p ∈ news, p.1 ≠ it) (hl : left ≤ 0)
    (h : ∀ h', Fr h₀ L h' m → News h₀ L h' news → Q none { s with heap := h' }) : wpAny (model prog w) A (pyNext (.ref it)) Q E s := by
  have n1 := N _ (.head _)
  refine wpAny_pyNext_range_end hh n1.1 hl fun h' k => ?_
  refine h h' (Fr.but F [it] (fun b hb => ?_) fun b o hb q => k b o (fun z => hb (by rw [z]; exact .head _)) q) fun p hp => ?_
  · rw [List.mem_singleton.mp hb]
    exact ⟨n1.2.2, n1.2.1⟩
  · have := N p (.tail _ hp)
    exact ⟨k _ _ (hap p hp) this.1, this.2⟩
theorem ri_start {Q : Value → Shared → Prop} {r : Addr} {n : Nat} {t u v : Tok} (hr : IsRange s.heap r 0 n 1 t u v) (hn : n ≤ 1000) (F : Fr h₀ L s.heap m) (N : News h₀ L s.heap [])
    (h : ∀ it h', Fr h₀ L h' m → News h₀ L h' [(it, riObj 0 n)] → Q (.ref it) { s with heap := h' }) : wpAny (model prog w) A (pyIter (.ref r)) Q E s := by
  have hz : Builtin.Range.rangeSize 0 n 1 = n := by rw [rangeSize_one]; split <;> omega
  refine wpAny_pyIter_range hr (small_one (by omega) (by omega) (by omega) (by omega)) ?_
  · rw [hz]
    have k0 : Kept s.heap (s.heap.push (riObj 0 n)) := fun b o e => Heap.get?_push_of_some _ e
    exact h _ _ (Fr.kept F k0) (News.made F N k0 (Heap.get?_push_size _ rfl))
end
theorem turn_con (w : World) (P : List Nat) (l : Addr) (us : List Value) (ns : List Int) (c : Nat) (xs : List Nat) (size : Int) (t0 t1 : Tok) (hi : IntsAre us ns) (H : Wh P ns (c :: xs)) (hs : size = P.length) :
    PCon w 85 4 40 [.ref l, .str (ls (c :: xs)) t0, .int size t1] (fun h => h.IsList l us.toArray)
      (fun h h' v => ∃ a vs ms, v = .ref a ∧ h.get? a = none ∧ h'.IsList a (List.toArray vs) ∧ IntsAre vs ms ∧ Wh (if c < 128 then P.drop 1 ++ P.take 1 else P) ms (xs ++ [c])) := by
  subst hs
  have hl := H.len
  have hx := H.xlen
  simp only [List.length_cons] at hx
  intro dp un gd cn cs a ccd cl outer A₀ base h₀ L m mean mg mb s Q E B F X T hk hp hd hu hret
  by_cases hc : c < 128
  · obtain ⟨P', n0, nt, rfl, rfl, W⟩ := H.turnA hc
    cases hi with
    | cons _ tt hi =>
      refine turnA_con w l _ _ n0 nt c xs _ t0 t1 (.cons n0 tt hi) (by simp only [List.length_cons] at hl; omega) hc dp un gd cn cs a ccd cl outer A₀ base h₀ L m mean mg mb s Q E B F X T hk hp hd hu ?_
      rintro v h' tk' k ⟨a, vs, rfl, e, o, hI⟩
      refine hret _ h' tk' k ⟨a, vs, _, rfl, e, o, hI, ?_⟩
      rw [if_pos hc]
      exact W
  · refine turnB_con w l us ns c xs _ t0 t1 hi (by omega) (by omega) (by omega) (fun y hy => by have := H.bd y hy; omega) H.codes_len dp un gd cn cs a ccd cl outer A₀ base h₀ L m mean mg mb s Q E B F X T hk hp hd hu ?_
    rintro v h' tk' k ⟨cd, p1, p2, a, vs, rfl, e, o, hI⟩
    refine hret _ h' tk' k ⟨a, vs, _, rfl, e, o, hI, ?_⟩
    rw [if_neg hc]
    exact H.turnB (by omega) p1 p2
section
variable {w : World} {f : Addr} {d u : Nat} {vs : List Value} {Pre : Heap → Prop} {R : List Int → Prop}
  {dp un : Nat} {gd : Option (List Code)} {cn : Str} {cs : Scope} {a : Addr} {ccd : Value} {cl : List (Str × Addr)} {outer : List Env} {A₀ : Around} {base h₀ : Heap} {L : Addr} {m : Str → Option Value}
    {mean : ExcName → Option Value} {mg mb : Str → Option Value} {s : Shared} {E : Value → Shared → Prop} {Q : Value → Shared → Prop} {news : List (Addr × Obj)}
theorem pcon_list (C : PCon w f d u vs Pre (fun h h' v => ∃ a us ms, v = .ref a ∧ h.get? a = none ∧ h'.IsList a (List.toArray us) ∧ IntsAre us ms ∧ R ms)) (B : Below A₀ base outer h₀) (F : Fr h₀ L s.heap m) (X : (Mine.hd.heap_39 w.params).In h₀) (T : Top Mine.hd.view_39 (looseW Mine.hd.view_39 []) mean mg mb h₀) (N : News h₀ L s.heap news)
    (hk : cs.kind = .function) (hp : Pre s.heap) (hd : dp + d < recursionLimit) (hu : un + u < cLine)
    (h : ∀ a us ms ob n h' tk', ob.cls = .type "list" → ob.data = .seq (List.toArray us) n → (∀ p ∈ news, a ≠ p.1) → IntsAre us ms → R ms → Fr h₀ L h' m → News h₀ L h' ((a, ob) :: news) → Q (.ref a) { s with heap := h', toks := tk' }) :
    wpAny (model PySem.Challenge.rw_mq0024_01.row.prog w) (ktrTop dp un gd cn cs L a ccd cl outer) (call (.ref f) vs) Q E s := by
  refine C _ _ _ _ _ _ _ _ _ _ _ _ _ _ _ _ _ _ _ _ B F X T hk hp hd hu ?_
  rintro v h' tk' k ⟨a, us, ms, rfl, e, ⟨ob, o, c, n, dd⟩, hI, hR⟩
  refine h a us ms ob n h' tk' c dd (fun p hp q => ?_) hI hR (Mine.Fr.kept F k) (News.fresh1 F N k e o)
  have := (N p hp).1
  rw [← q, e] at this
  cases this
end
theorem News.pick2 {h₀ h : Heap} {L : Addr} {p q : Addr × Obj} {news : List (Addr × Obj)} (N : News h₀ L h (p :: q :: news)) : News h₀ L h [p, q] := fun z hz => N z (by
  rcases List.mem_cons.mp hz with rfl | hz
  · exact .head _
  · rw [List.mem_singleton.mp hz]; exact .tail _ (.head _))

/-! part WL -/
theorem first_eq (P : List Nat) (n0 : Int) : insL [n0] 128 (-1) P = P.take (Int.fmod n0 (P.length + 1)).toNat ++ [(128 + Int.fdiv n0 (P.length + 1)).toNat] ++ P.drop (Int.fmod n0 (P.length + 1)).toNat := by
  simp only [insL, show (-1 : Int) + (n0 + 1) = n0 by omega, List.append_assoc, List.cons_append, List.nil_append]
theorem ls_ne_same {prog : Program} {w : World} {A : Around} {E : Value → Shared → Prop} {s : Shared} {a b : List Nat} {t u : Tok} {Q : Value → Shared → Prop} (e : a = b) (h : Q (.bool false) s) : wpAny (model prog w) A (compareOp .NotEq (.str (ls a) t) (.str (ls b) u)) Q E s := by
  refine ls_ne ?_
  rw [decide_eq_false (fun q => q e)]
  exact h
def wlM (u1 u2 u3 u4 u5 u6 : Option Value) (P : List Nat) (l : Addr) (t : Tok) (y : Str) : Option Value :=
  if y = Str.ofString "turn" then u1 else if y = Str.ofString "seen" then u2 else if y = Str.ofString "signs" then u3 else if y = Str.ofString "numbers" then u4 else if y = Str.ofString "spot" then u5 else if y = Str.ofString "places" then u6
  else if y = Str.ofString "row" then some (.ref l) else if y = Str.ofString "plain" then some (.str (ls P) t) else none
set_option maxHeartbeats 8000000 in
theorem wheel_con (w : World) (P : List Nat) (t : Tok) (l : Addr) (vs : List Value) (ns : List Int) (x : List Nat) (hi : IntsAre vs ns) (H : Wh P ns x) :
    SCon w 92 14 150 [.str (ls P) t, .ref l] (fun h => h.IsList l vs.toArray) (fun _ _ v => v = .bool true) := by
  unfold SCon
  k_fill
  w_top off
  k_with_none
  k_with "call ref" => (k_here; (show wpAny _ _ (call (Value.ref 21) [Value.int _ _, Value.int _ _]) _ _ _); k_dflt (refine' pcon_val (T_con _ _ _ _ _) ?k1 ?k2 ?k3 ?k4 ?k5 ?kK trivial ?kd ?ku ?_; walk_at "mine use"; k_whole); intro _ _ _ _ _ _; (try dsimp only); (try k_sweep))
  k_with "call ref" => (k_here; (show wpAny _ _ (call (Value.ref 35) [Value.int _ _, Value.bool _, Value.int _ _]) _ _ _); k_dflt (refine' pcon_val (adapt_con _ _ _ _ _ _ ?g1 ?g2 ?g3) ?k1 ?k2 ?k3 ?k4 ?k5 ?kK trivial ?kd ?ku ?_; (case g1 => omega); (case g2 => first | omega | (simp only [List.length_append, List.length_cons, List.length_nil, List.length_take, List.length_drop]; omega)); (case g3 => first | omega | (simp only [List.length_append, List.length_cons, List.length_nil, List.length_take, List.length_drop]; omega)); walk_at "mine use"; k_whole); intro _ _ _ _ _ _; (try dsimp only); (try k_sweep))
  k_with "call builtin:len" => ((with_reducible show wpAny _ _ (call (Value.builtin "len") [Value.str (ls _) _]) _ _ _); (refine ls_callLen (by first | omega | (simp only [List.length_append, List.length_cons, List.length_nil, List.length_take, List.length_drop]; omega)) ?_))
  k_with "call builtin:chr" => ((with_reducible show wpAny _ _ (call (Value.builtin "chr") [Value.int _ _]) _ _ _); (refine ls_chr (by omega) (by omega) ?_); intro _ _)
  k_with "call builtin:ord" => ((with_reducible show wpAny _ _ (call (Value.builtin "ord") [Value.str (ls [_]) _]) _ _ _); (refine ls_ord ?_); intro _ _)
  k_with "binaryOp Add str str" => ((with_reducible show wpAny _ _ (binaryOp Operator.Add (Value.str (ls _) _) (Value.str (ls _) _)) _ _ _); (refine ls_add (by first | omega | (simp only [List.length_append, List.length_cons, List.length_nil, List.length_take, List.length_drop]; omega)) ?_); intro _ _)
  k_with "compareOp Eq str str" => ((with_reducible show wpAny _ _ (compareOp CmpOp.Eq (Value.str (ls _) _) (Value.str (ls _) _)) _ _ _); (refine ls_eq ?_))
  k_with "compareOp NotEq str str" => ((with_reducible show wpAny _ _ (compareOp CmpOp.NotEq (Value.str (ls _) _) (Value.str (ls _) _)) _ _ _); (refine ls_ne ?_))
  k_with "subscriptTail Name Slice str ref" => ((with_reducible show wpAny _ _ (subscriptTail _ (Expr.Slice none (some _) none _) (Value.str (ls _) _) _) _ _ _); (with_reducible rename Fr _ _ _ _ => Fw); (with_reducible rename News _ _ _ _ => Nw); (refine ls_to (s := ⟨_, _, _, _, _⟩) Fw Nw (by omega) (by omega) (by omega) ?_); intro _ _ _ _ _)
  k_with "subscriptTail Name Slice str ref" => ((with_reducible show wpAny _ _ (subscriptTail _ (Expr.Slice (some _) none none _) (Value.str (ls _) _) _) _ _ _); (with_reducible rename Fr _ _ _ _ => Fw); (with_reducible rename News _ _ _ _ => Nw); (refine ls_from (s := ⟨_, _, _, _, _⟩) Fw Nw (by omega) (by omega) (by omega) ?_); intro _ _ _ _ _)
  k_with "subscriptTail" => ((with_reducible show wpAny _ _ (subscriptTail _ _ (Value.str (ls (_ :: _)) _) (Value.int 0 _)) _ _ _); (refine ls_item0 ?_); intro _ _)
  k_with "subscriptTail Name Slice ref ref" => (k_here; (with_reducible show wpAny _ _ (subscriptTail _ (Expr.Slice _ _ none _) (Value.ref _) (Value.ref _)) _ _ _); k_dflt (refine' W.kmk_slice_ints ?w9F ?w9N ?w9l ?w9p ?w9q ?w9i ?w9m rfl ?_ ?w9s ?w9t ?w9z; (case w9F => k_asm); (case w9N => k_asm); (case w9l => first | exact News.isList (by k_asm) (by k_mem) | exact Fr.lst (by k_asm) (by k_asm)); (case w9p => first | exact IsPart.none | exact IsPart.int _ _); (case w9q => first | exact IsPart.none | exact IsPart.int _ _); (case w9i => assumption); (case w9m => first | exact W.kmk_from (by assumption) (by omega) | exact W.kmk_upto (by assumption) (by omega) | exact W.kmk_run (by assumption) (by omega) (by omega)); (case w9s => with_unfolding_all rfl); (case w9t => intro _; with_unfolding_all rfl); (case w9z => exact W.kmk_sz (by assumption) (by rw [sizeLine_eq]; omega))); intro _ _ _ _ _ l1 _ hC' hL'; clear l1 hC' hL'; (try k_sweep))
  intro dp un gd cn cs a ccd cl outer A₀ base h₀ L m mean mg mb s Q B F X T hk hL hd hu hret
  walk_at "mine enterP"
  intro L' h' F' N' B' X' T'
  replace F' := Mine.Fr.congr (m' := fun y => if y = Str.ofString "row" then some (.ref l) else if y = Str.ofString "plain" then some (.str (ls P) t) else none) F' lk2
  refine wpP_ret ?_
  intro Qf hQf
  refine wpP_tk ?_
  intro tk
  have hP6 := H.len
  have hn0 : 0 < ns.length := List.length_pos_iff.mpr H.some
  have hPl : P.length ≤ 6 := by omega
  have m1 := fmod_lo (ns.getD 0 0) (n := P.length + 1) (by omega)
  have m2 := fmod_hi (ns.getD 0 0) (n := P.length + 1) (by omega)
  have hmem : ns.getD 0 0 ∈ ns := by
    obtain ⟨n0, nt, rfl⟩ := List.exists_cons_of_ne_nil H.some
    exact .head _
  have hsm := H.small _ hmem
  have m3 : 0 ≤ Int.fdiv (ns.getD 0 0) (P.length + 1) := by rw [Int.fdiv_eq_ediv_of_nonneg _ (by omega)]; exact Int.ediv_nonneg (by omega) (by omega)
  have m4 : 128 + Int.fdiv (ns.getD 0 0) (P.length + 1) ≤ 1114111 := by
    have : Int.fdiv (ns.getD 0 0) (P.length + 1) ≤ ns.getD 0 0 := by rw [Int.fdiv_eq_ediv_of_nonneg _ (by omega)]; exact Int.ediv_le_self _ (by omega)
    have h1 := le_sum ns H.nn _ hmem
    have h2 := H.sum
    omega
  have m5 : 0 ≤ Int.fdiv (ns.getD (Int.toNat 0) 0) (P.length + 1) := m3
  have m6 : 128 + Int.fdiv (ns.getD (Int.toNat 0) 0) (P.length + 1) ≤ 1114111 := m4
  have m7 : ns.getD 0 0 + 1 ≤ 200000 := Int.le_trans (le_sum ns H.nn _ hmem) H.sum
  refine pExecs_any ?_
  k_steps
  rename Fr s.heap L' _ _ => F1
  rename News s.heap L' _ _ => N1
  obtain ⟨t6, F2⟩ : ∃ t6, Fr s.heap L' _ (wlM none none none none none (some (.int (P.length + 1) t6)) P l t) := ⟨_, Mine.Fr.congr F1 (map_ext [Str.ofString "turn", Str.ofString "seen", Str.ofString "signs", Str.ofString "numbers", Str.ofString "spot", Str.ofString "places", Str.ofString "row", Str.ofString "plain"] (by walk_at "mine same1") (by unfold wlM; walk_at "mine same2"))⟩
  clear F1
  refine wpP_tk (s := s) ?_
  intro tk2
  refine pExecs_any ?_
  k_steps
  rename Fr s.heap L' _ _ => F3
  rename News s.heap L' _ _ => N3
  obtain ⟨t5, F4⟩ : ∃ t5, Fr s.heap L' _ (wlM none none none none (some (.int (Int.fmod (ns.getD 0 0) (P.length + 1)) t5)) (some (.int (P.length + 1) t6)) P l t) := ⟨_, Mine.Fr.congr F3 (map_ext [Str.ofString "turn", Str.ofString "seen", Str.ofString "signs", Str.ofString "numbers", Str.ofString "spot", Str.ofString "places", Str.ofString "row", Str.ofString "plain"] (by walk_at "mine same1") (by unfold wlM; walk_at "mine same2"))⟩
  clear F3
  refine wpP_tk (s := s) ?_
  intro tk3
  refine pExecs_cons (pIf (pIsTrue_Compare1 (pCall_Name ?_)))
  k_steps
  refine pCallWith_fn rfl (Nat.le_of_ble_eq_true rfl) (pEvalArgsB (wpP_of ?_))
  k_steps
  rename Fr s.heap L' _ _ => F5
  rename News s.heap L' _ _ => N5
  rename IntsAre _ (List.take _ _) => hI5
  refine FnOn.mk F5 X' (by k_is) ?_
  have e1 : List.take (Int.toNat 1) ns = [ns.getD 0 0] := by
    obtain ⟨n0, nt, rfl⟩ := List.exists_cons_of_ne_nil H.some
    rfl
  rw [e1] at hI5
  k_dflt (refine' scon_val (read_con _ P _ _ _ [ns.getD 0 0] hI5 H.ne H.pl ?g1 ?g2 ?g3 ?g4) ?k1 ?k2 ?k3 ?k4 ?k5 ?kK ?kp ?kd ?ku ?_; (case kp => exact N5.isList (.head _)); (case g1 => intro n hn; rw [List.mem_singleton.mp hn]; exact hsm); (case g2 => exact Nat.le_of_ble_eq_true rfl); (case g3 => omega); (case g4 => simp only [List.map_cons, List.map_nil, List.sum_cons, List.sum_nil]; omega); walk_at "mine use")
  intro t7 h7 tk7 F7 N7 K7
  rw [first_eq]
  clear F5 N5 hI5 e1
  have N8 : News s.heap L' h7 [] := News.nil
  clear N7
  refine wpP_of ?_
  k_steps
  refine wpP_of (ls_ne_same rfl ?_)
  refine wpP_of ?_
  k_steps
  refine pExecs_nil ?_
  rename Fr s.heap L' _ _ => F9
  rename News s.heap L' _ _ => N9
  clear K7 m1 m2 m3 m4 m5 m6 m7 hsm hmem
  refine wpP_tk (s := s) ?_
  intro tk9
  refine pExecs_cons (pAssign_Name (pCall_Name ?_))
  k_steps
  refine pCallWith_fn rfl (Nat.le_of_ble_eq_true rfl) (pEvalArgsB (wpP_of ?_))
  k_steps
  refine FnOn.mk F9 X' (by k_is) ?_
  k_dflt (refine' scon_val (read_con _ P _ _ _ ns hi H.ne H.pl H.small ?g2 ?g3 ?g4) ?k1 ?k2 ?k3 ?k4 ?k5 ?kK ?kp ?kd ?ku ?_; (case kp => exact Fr.lst F9 hL); (case g2 => omega); (case g3 => omega); (case g4 => have := H.sum; omega); walk_at "mine use")
  intro t10 h10 tk10 F10 N10 K10
  rw [H.eq]
  clear F9 N9 K10
  k_steps
  rename Fr s.heap L' _ _ => F11
  rename News s.heap L' _ _ => N11
  generalize hu5 : some (Value.int (Int.fmod (ns.getD 0 0) (P.length + 1)) t5) = u5 at *
  generalize hu6 : some (Value.int ((P.length : Int) + 1) t6) = u6 at *
  have F12 := Mine.Fr.congr (m' := wlM none (some (.str (ls x) t10)) none none u5 u6 P l t) F11 (map_ext [Str.ofString "turn", Str.ofString "seen", Str.ofString "signs", Str.ofString "numbers", Str.ofString "spot", Str.ofString "places", Str.ofString "row", Str.ofString "plain"] (by walk_at "mine same1") (by unfold wlM; walk_at "mine same2"))
  clear F11
  refine wpP_tk (s := s) ?_
  intro tk11
  refine pExecs_any ?_
  k_steps
  refine pExecs_any ?_
  k_steps
  rename Fr s.heap L' _ _ => F13
  rename News s.heap L' _ _ => N13
  have F14 := Mine.Fr.congr (m' := wlM none (some (.str (ls x) t10)) (some (.str (ls P) t)) (some (.ref l)) u5 u6 P l t) F13 (map_ext [Str.ofString "turn", Str.ofString "seen", Str.ofString "signs", Str.ofString "numbers", Str.ofString "spot", Str.ofString "places", Str.ofString "row", Str.ofString "plain"] (by walk_at "mine same1") (by unfold wlM; walk_at "mine same2"))
  clear F13
  refine wpP_tk (s := s) ?_
  intro tk13
  have hxl : x.length ≤ 6 := by rw [H.xlen]; exact hP6
  refine pExecs_cons (pFor ?_)
  k_steps
  rename Fr s.heap L' _ _ => F15
  rename News s.heap L' _ _ => N15
  rename IsRange _ _ _ _ _ _ _ _ => hrg
  refine ri_start (s := ⟨_, _, _, _, _⟩) hrg (by omega) F15 N15 ?_
  intro it h16 F16 N16
  clear F15 N15 hrg
  have hL0 := hL
  refine codeP_for (fun n s' => ∃ (i : Nat) (P' : List Nat) (ns' : List Int) (x' : List Nat) (a : Addr) (us : List Value) (news : List (Addr × Obj)) (u1 : Option Value) (t1 t2 : Tok) (h : Heap) (tk : Nat), s' = { s with heap := h, toks := tk } ∧
    Fr s.heap L' h (wlM u1 (some (.str (ls x') t1)) (some (.str (ls P') t2)) (some (.ref a)) u5 u6 P l t) ∧ News s.heap L' h ((it, riObj i (x.length - i)) :: news) ∧ (∀ p ∈ news, p.1 ≠ it) ∧ (∀ h', Kept s.heap h' → News s.heap L' h' news → h'.IsList a us.toArray) ∧
    IntsAre us ns' ∧ Wh P' ns' x' ∧ x' = x.drop i ++ x.take i ∧ P'.length = P.length ∧ i ≤ x.length ∧ n = x.length + 1 - i) ?_ (x.length + 1)
    ⟨0, P, ns, x, l, vs, [], none, _, _, _, _, rfl, F16, by simpa using N16, fun _ h => (nomatch h), fun h' k _ => hL.at fun o e => k _ _ e, hi, H, by simp, rfl, Nat.zero_le _, rfl⟩
  clear F16 N16
  rintro n s' ⟨i, P', ns', x', a', us, news, u1, t1, t2, h17, tk17, rfl, F17, N17, hap, hIn, hi', H', hx', hPP, hix, rfl⟩
  by_cases hlt : i < x.length
  · refine ri_item (s := ⟨_, _, _, _, _⟩) F17 N17 hap (by omega) fun h18 t18 tk18 F18 N18 => ?_
    clear F17 N17
    refine wpAny_of_eq (a := ()) rfl ?_
    refine wpAny_assign_Name (stN (s := ⟨_, _, _, _, _⟩) F18 N18 (fun h19 F19 N19 => ?_) rfl rfl)
    clear F18 N18
    have F20 := Mine.Fr.congr (m' := wlM (some (.int i t18)) (some (.str (ls x') t1)) (some (.str (ls P') t2)) (some (.ref a')) u5 u6 P l t) F19 (map_ext [Str.ofString "turn", Str.ofString "seen", Str.ofString "signs", Str.ofString "numbers", Str.ofString "spot", Str.ofString "places", Str.ofString "row", Str.ofString "plain"] (by walk_at "mine same1") (by unfold wlM; walk_at "mine same2"))
    clear F19
    have hdr : x.drop i = x[i] :: x.drop (i + 1) := List.drop_eq_getElem_cons hlt
    obtain ⟨c, wx, rfl, hw⟩ : ∃ c wx, x' = c :: wx ∧ wx ++ [c] = x.drop (i + 1) ++ x.take (i + 1) := by
      refine ⟨x[i], x.drop (i + 1) ++ x.take i, ?_, ?_⟩
      · rw [hx', hdr]; rfl
      · rw [List.take_succ_eq_append_getElem hlt, List.append_assoc]
    refine wpP_tk (s := s) ?_
    intro tk20
    refine pExecs_any ?_
    k_steps
    k_dflt (refine' pcon_list (turn_con _ P' _ _ _ c wx _ _ _ hi' H' ?g1) ?k1 ?k2 ?k3 ?k4 ?k5 ?kK ?kp ?kd ?ku ?_; (case g1 => rw [hPP]); (case kp => exact hIn _ (Fr.keep F20) fun p hp => N19 p (.tail _ hp)); walk_at "mine use")
    intro a2 us2 ms ob nn h21 tk21 oc od hne hI2 H2 F21 N21
    clear F20 N19
    k_steps
    rename Fr s.heap L' _ _ => F22
    rename News s.heap L' _ _ => N22
    have F23 := Mine.Fr.congr (m' := wlM (some (.int i t18)) (some (.str (ls (c :: wx)) t1)) (some (.str (ls P') t2)) (some (.ref a2)) u5 u6 P l t) F22 (map_ext [Str.ofString "turn", Str.ofString "seen", Str.ofString "signs", Str.ofString "numbers", Str.ofString "spot", Str.ofString "places", Str.ofString "row", Str.ofString "plain"] (by walk_at "mine same1") (by unfold wlM; walk_at "mine same2"))
    have N23 := News.pick2 N22
    have hne2 : a2 ≠ it := hne _ (.head _)
    clear F22 N22 hne hIn hap hi'
    refine wpP_tk (s := s) ?_
    intro tk22
    have hP' : 0 < P'.length := List.length_pos_iff.mpr H'.ne
    have hwl : (c :: wx).length ≤ 6 := by rw [H'.xlen]; exact H'.len
    have hP6' : P'.length ≤ 6 := by have := H'.len; omega
    have hw1 : 1 ≤ (c :: wx).length := by simp
    have hw5 : wx.length ≤ 5 := by simp only [List.length_cons] at hwl; omega
    refine pExecs_cons (wpP_mono (Q := fun f s' => f = .next ∧ Hold (∃ t3 h tk, s' = { s with heap := h, toks := tk } ∧ Fr s.heap L' h (wlM (some (.int i t18)) (some (.str (ls (c :: wx)) t1)) (some (.str (ls (if c < 128 then P'.drop 1 ++ P'.take 1 else P')) t3)) (some (.ref a2)) u5 u6 P l t) ∧ News s.heap L' h [(a2, ob), (it, riObj (i + 1) (x.length - i - 1))])) (wpP_of ?_) ?_)
    · by_cases hc : c < 128
      · have hcz : ((c : Nat) : Int) < 128 := by omega
        rw [if_pos hc]
        k_steps
        rename Fr s.heap L' _ _ => F24
        rename News s.heap L' _ _ => N24
        have F25 := Mine.Fr.congr (m' := wlM (some (.int i t18)) (some (.str (ls (c :: wx)) t1)) (some (.str (ls (P'.drop 1 ++ P'.take 1)) _)) (some (.ref a2)) u5 u6 P l t) F24 (map_ext [Str.ofString "turn", Str.ofString "seen", Str.ofString "signs", Str.ofString "numbers", Str.ofString "spot", Str.ofString "places", Str.ofString "row", Str.ofString "plain"] (by walk_at "mine same1") (by unfold wlM; walk_at "mine same2"))
        exact Hold.mk ⟨_, _, _, rfl, F25, N24⟩
      · have hcz : ¬ ((c : Nat) : Int) < 128 := by omega
        rw [if_neg hc]
        k_steps
        rename Fr s.heap L' _ _ => F24
        rename News s.heap L' _ _ => N24
        exact Hold.mk ⟨_, _, _, rfl, F24, N24⟩
    rintro f s' ⟨rfl, t3, h24, tk24, rfl, F24, N24⟩
    clear F23 N23 hP'
    have hPn : (if c < 128 then P'.drop 1 ++ P'.take 1 else P').length = P.length := by
      rw [← hPP]
      split
      · rw [List.length_append, List.length_drop, List.length_take]; omega
      · rfl
    generalize (if c < 128 then P'.drop 1 ++ P'.take 1 else P') = Pn at *
    refine wpP_tk (s := s) ?_
    intro tk25
    refine pExecs_any ?_
    k_steps
    rename Fr s.heap L' _ _ => F26
    rename News s.heap L' _ _ => N26
    obtain ⟨t4, F27⟩ : ∃ t4, Fr s.heap L' _ (wlM (some (.int i t18)) (some (.str (ls (wx ++ [c])) t4)) (some (.str (ls Pn) t3)) (some (.ref a2)) u5 u6 P l t) := ⟨_, Mine.Fr.congr F26 (map_ext [Str.ofString "turn", Str.ofString "seen", Str.ofString "signs", Str.ofString "numbers", Str.ofString "spot", Str.ofString "places", Str.ofString "row", Str.ofString "plain"] (by walk_at "mine same1") (by unfold wlM; walk_at "mine same2"))⟩
    clear F26
    refine wpP_tk (s := s) ?_
    intro tk27
    have hl2 := H2.len
    refine pExecs_cons (pIf (pIsTrue_Compare1 (pCall_Name ?_)))
    k_steps
    refine pCallWith_fn rfl (Nat.le_of_ble_eq_true rfl) (pEvalArgsB (wpP_of ?_))
    k_steps
    rename Fr s.heap L' _ _ => F28
    rename News s.heap L' _ _ => N28
    refine FnOn.mk F28 X' (by k_is) ?_
    k_dflt (refine' scon_val (read_con _ Pn _ _ _ ms hI2 H2.ne H2.pl H2.small ?g2 ?g3 ?g4) ?k1 ?k2 ?k3 ?k4 ?k5 ?kK ?kp ?kd ?ku ?_; (case kp => exact ⟨ob, (N28 _ (.head _)).1, oc, nn, od⟩); (case g2 => omega); (case g3 => omega); (case g4 => have := H2.sum; omega); walk_at "mine use")
    intro t29 h29 tk29 F29 N29 K29
    rw [H2.eq]
    clear F28 N28 K29
    refine wpP_of ?_
    k_steps
    refine wpP_of (ls_ne_same rfl ?_)
    refine wpP_of ?_
    k_steps
    refine pExecs_nil ?_
    rename Fr s.heap L' _ _ => F30
    rename News s.heap L' _ _ => N30
    refine pExecs_nil ?_
    refine ⟨x.length + 1 - (i + 1), by omega, i + 1, Pn, ms, wx ++ [c], a2, us2, [(a2, ob)], _, t4, t3, _, _, rfl, F30, ?_, ?_, ?_, hI2, H2, hw, hPn, hlt, rfl⟩
    · have := News.sub2 N30
      rw [show ((i + 1 : Nat) : Int) = (i : Int) + 1 by omega, show (x.length : Int) - ((i : Int) + 1) = x.length - i - 1 by omega]
      exact this
    · intro p hp
      rw [List.mem_singleton.mp hp]
      exact hne2
    · exact fun h' _ N => ⟨ob, (N _ (.head _)).1, oc, nn, od⟩
  · refine ri_end (s := ⟨_, _, _, _, _⟩) rfl F17 N17 hap (by omega) fun h18 F18 N18 => ?_
    have hie : i = x.length := by omega
    have hxx : x' = x := by rw [hx', hie, List.drop_length, List.take_length]; rfl
    subst hxx
    obtain ⟨rfl, rfl⟩ := H.same H'
    have hA : h18.IsList a' us.toArray := hIn _ (Fr.keep F18) N18
    have hA2 : h18.IsList l vs.toArray := hL.at fun o e => Fr.keep F18 _ _ e
    clear F17 N17 hIn
    refine wpP_tk (s := s) ?_
    intro tk18
    refine pExecs_any ?_
    k_steps
    · exact hQf _ _ (hret _ _ _ (Fr.keep F18) rfl)
    · exact absurd rfl ‹¬ P' = P'›

/-! part WI -/
theorem cell_lo (n : Int) : 0 ≤ cellOf n := by
  unfold cellOf
  split
  · exact fmod_lo _ (by omega)
  · split
    · exact fmod_lo _ (by omega)
    · exact fmod_lo _ (by omega)
theorem cell_hi (n : Int) : cellOf n + 1 ≤ 9000 := by
  unfold cellOf
  split
  · have := fmod_hi (Int.fdiv n 4) (n := 4) (by omega); omega
  · split
    · have := fmod_hi (Int.fdiv n 4) (n := 60) (by omega); omega
    · have := fmod_hi (Int.fdiv n 4) (n := 9000) (by omega); omega
theorem row_nn (ns : List Int) : ∀ n ∈ rowOf ns, 0 ≤ n := fun n hn => by
  obtain ⟨k, _, rfl⟩ := List.mem_map.mp hn
  exact cell_lo k
theorem row_sum : ∀ ns : List Int, ((rowOf ns).map (· + 1)).sum ≤ 9000 * (ns.length : Int)
  | [] => by simp [rowOf]
  | n :: ns => by
    have ih := row_sum ns
    have h := cell_hi n
    have h0 := cell_lo n
    unfold rowOf at ih ⊢
    by_cases hp : 0 < Int.fmod n 4
    · rw [List.filter_cons, if_pos (by simpa using hp)]
      simp only [List.map_cons, List.sum_cons, List.length_cons]
      push_cast
      omega
    · rw [List.filter_cons, if_neg (by simpa using hp)]
      simp only [List.length_cons]
      push_cast
      omega
theorem part_len : ∀ ns : List Int, (ns.filter (fun n => Int.fmod n 4 == 0)).length + (rowOf ns).length ≤ ns.length
  | [] => by simp [rowOf]
  | n :: ns => by
    have ih := part_len ns
    unfold rowOf at ih ⊢
    rw [List.length_map] at ih ⊢
    have m1 := fmod_lo n (n := 4) (by omega)
    by_cases hp : 0 < Int.fmod n 4
    · rw [List.filter_cons, if_neg (by simp only [beq_iff_eq]; omega), List.filter_cons, if_pos (by simpa using hp)]
      simp only [List.length_cons]
      omega
    · rw [List.filter_cons, if_pos (by simp only [beq_iff_eq]; omega), List.filter_cons, if_neg (by simpa using hp)]
      simp only [List.length_cons]
      omega
/-- the plain signs that a script gives -/
def plainOf (ns : List Int) : List Nat := 98 :: (ns.filter (fun n => Int.fmod n 4 == 0)).map (fun n => (Int.fmod (Int.fdiv n 4) 128).toNat)
theorem Wh.init (ns : List Int) (h : ns.length ≤ 3) : Wh (plainOf ns) (rowOf ns ++ [30, 0]) (insL (rowOf ns ++ [30, 0]) 128 (-1) (plainOf ns)) := by
  have h1 := part_len ns
  have h2 := row_sum ns
  have hnn : ∀ n ∈ rowOf ns ++ [30, 0], 0 ≤ n := fun n hn => by
    rcases List.mem_append.mp hn with q | q
    · exact row_nn ns n q
    · rcases List.mem_cons.mp q with rfl | q
      · omega
      · rw [List.mem_singleton.mp q]; omega
  have hpl : ∀ y ∈ plainOf ns, y < 128 := fun y hy => by
    rcases List.mem_cons.mp hy with rfl | q
    · omega
    · obtain ⟨k, _, rfl⟩ := List.mem_map.mp q
      have m1 := fmod_lo (Int.fdiv k 4) (n := 128) (by omega)
      have m2 := fmod_hi (Int.fdiv k 4) (n := 128) (by omega)
      omega
  have hpo : (plainOf ns).length = (ns.filter (fun n => Int.fmod n 4 == 0)).length + 1 := by
    unfold plainOf
    rw [List.length_cons, List.length_map]
  refine Wh.mk rfl hnn hpl (by unfold plainOf; simp) ?_ (by simp) ?_
  · rw [hpo, List.length_append]
    simp only [List.length_cons, List.length_nil]
    omega
  · have hb := code_bound (rowOf ns ++ [30, 0]) 128 (-1) (plainOf ns) 30000 hnn (by omega) (by omega) (fun y hy => by have := hpl y hy; omega) (by
      rw [List.map_append, List.sum_append]
      simp only [List.map_cons, List.map_nil, List.sum_cons, List.sum_nil]
      omega)
    exact hb

/-! part TOP -/
theorem plain_con' (w : World) (l : Addr) (vs : List Value) (ns : List Int) (hi : IntsAre vs ns) (hl : ns.length ≤ 3) :
    PCon w 68 6 60 [.ref l] (fun h => h.IsList l vs.toArray) (fun _ _ v => ∃ t, v = .str (ls (plainOf ns)) t) := plain_con w l vs ns hi hl
theorem row_con' (w : World) (l : Addr) (vs : List Value) (ns : List Int) (hi : IntsAre vs ns) (hl : ns.length ≤ 3) :
    PCon w 75 6 60 [.ref l] (fun h => h.IsList l vs.toArray)
      (fun h h' v => ∃ a us ms, v = .ref a ∧ h.get? a = none ∧ h'.IsList a (List.toArray us) ∧ IntsAre us ms ∧ ms = rowOf ns ++ [30, 0]) := by
  intro dp un gd cn cs a ccd cl outer A₀ base h₀ L m mean mg mb s Q E B F X T hk hp hd hu hret
  refine row_con w l vs ns hi hl dp un gd cn cs a ccd cl outer A₀ base h₀ L m mean mg mb s Q E B F X T hk hp hd hu ?_
  rintro v h' tk' k ⟨a, us, e1, e2, e3, e4⟩
  exact hret v h' tk' k ⟨a, us, _, e1, e2, e3, e4, rfl⟩
set_option maxHeartbeats 8000000 in
theorem law_holds : PySem.Challenge.rw_mq0024_01.Holds := by
  refine hd ?_
  unfold LawWalk
  k_fill
  w_top off
  k_with_none
  k_with "call ref" => (k_here; (show wpAny _ _ (call (Value.ref 21) [Value.int _ _, Value.int _ _]) _ _ _); k_dflt (refine' pcon_val (T_con _ _ _ _ _) ?k1 ?k2 ?k3 ?k4 ?k5 ?kK trivial ?kd ?ku ?_; walk_at "mine use"; k_whole); intro _ _ _ _ _ _; (try dsimp only); (try k_sweep))
  k_with "call ref" => (k_here; (show wpAny _ _ (call (Value.ref 35) [Value.int _ _, Value.bool _, Value.int _ _]) _ _ _); k_dflt (refine' pcon_val (adapt_con _ _ _ _ _ _ ?g1 ?g2 ?g3) ?k1 ?k2 ?k3 ?k4 ?k5 ?kK trivial ?kd ?ku ?_; (case g1 => omega); (case g2 => first | omega | (simp only [List.length_append, List.length_cons, List.length_nil, List.length_take, List.length_drop]; omega)); (case g3 => first | omega | (simp only [List.length_append, List.length_cons, List.length_nil, List.length_take, List.length_drop]; omega)); walk_at "mine use"; k_whole); intro _ _ _ _ _ _; (try dsimp only); (try k_sweep))
  k_with "call builtin:len" => ((with_reducible show wpAny _ _ (call (Value.builtin "len") [Value.str (ls _) _]) _ _ _); (refine ls_callLen (by first | omega | (simp only [List.length_append, List.length_cons, List.length_nil, List.length_take, List.length_drop]; omega)) ?_))
  k_with "call builtin:chr" => ((with_reducible show wpAny _ _ (call (Value.builtin "chr") [Value.int _ _]) _ _ _); (refine ls_chr (by omega) (by omega) ?_); intro _ _)
  k_with "call builtin:ord" => ((with_reducible show wpAny _ _ (call (Value.builtin "ord") [Value.str (ls [_]) _]) _ _ _); (refine ls_ord ?_); intro _ _)
  k_with "binaryOp Add str str" => ((with_reducible show wpAny _ _ (binaryOp Operator.Add (Value.str (ls _) _) (Value.str (ls _) _)) _ _ _); (refine ls_add (by first | omega | (simp only [List.length_append, List.length_cons, List.length_nil, List.length_take, List.length_drop]; omega)) ?_); intro _ _)
  k_with "compareOp Eq str str" => ((with_reducible show wpAny _ _ (compareOp CmpOp.Eq (Value.str (ls _) _) (Value.str (ls _) _)) _ _ _); (refine ls_eq ?_))
  k_with "compareOp NotEq str str" => ((with_reducible show wpAny _ _ (compareOp CmpOp.NotEq (Value.str (ls _) _) (Value.str (ls _) _)) _ _ _); (refine ls_ne ?_))
  k_with "subscriptTail Name Slice str ref" => ((with_reducible show wpAny _ _ (subscriptTail _ (Expr.Slice none (some _) none _) (Value.str (ls _) _) _) _ _ _); (with_reducible rename Fr _ _ _ _ => Fw); (with_reducible rename News _ _ _ _ => Nw); (refine ls_to (s := ⟨_, _, _, _, _⟩) Fw Nw (by omega) (by omega) (by omega) ?_); intro _ _ _ _ _)
  k_with "subscriptTail Name Slice str ref" => ((with_reducible show wpAny _ _ (subscriptTail _ (Expr.Slice (some _) none none _) (Value.str (ls _) _) _) _ _ _); (with_reducible rename Fr _ _ _ _ => Fw); (with_reducible rename News _ _ _ _ => Nw); (refine ls_from (s := ⟨_, _, _, _, _⟩) Fw Nw (by omega) (by omega) (by omega) ?_); intro _ _ _ _ _)
  k_with "subscriptTail" => ((with_reducible show wpAny _ _ (subscriptTail _ _ (Value.str (ls (_ :: _)) _) (Value.int 0 _)) _ _ _); (refine ls_item0 ?_); intro _ _)
  k_with "call ref" => (k_here; (show wpAny _ _ (call (Value.ref 68) [Value.ref _]) _ _ _); k_dflt (refine' pcon_val (plain_con' _ _ _ _ (by assumption) (by assumption)) ?k1 ?k2 ?k3 ?k4 ?k5 ?kK ?kp ?kd ?ku ?_; (case kp => exact News.isList (by k_asm) (by k_mem)); walk_at "mine use"; k_whole); intro _ _ _ _ _ _; (try dsimp only); (try k_sweep))
  k_with "call ref" => (k_here; (show wpAny _ _ (call (Value.ref 75) [Value.ref _]) _ _ _); k_dflt (refine' pcon_list (row_con' _ _ _ _ (by assumption) (by assumption)) ?k1 ?k2 ?k3 ?k4 ?k5 ?kK ?kp ?kd ?ku ?_; (case kp => exact News.isList (by k_asm) (by k_mem)); walk_at "mine use"; k_whole); intro _ _ _ _ _ _ _ _ _ _ _ _ _ _; (try dsimp only); (try k_sweep))
  intro w s₀ s₁ mg mb args vals as hdef G Y hpre hlay LL low
  obtain ⟨fa, o, pm, cd, doc, dV, kV, hmg, ho, hd, hcd, hD⟩ := G.fn hdef
  refine ⟨_, hmg, ?_⟩
  have hg := LL.gens
  have hrd := LL.reads
  have hwl := LL.well
  have hlo := LL.low low
  clear LL hdef low
  have KX := kIn_of Y
  refine Ground.open G ?_
  intro T B D TE TW
  wrow_args hpre hlay hrd hwl hlo
  rename_i ns _ _ _ _ _ _ _ l vs _ hL _ _ _ hI _ hcl _
  refine wpP_call ?_
  have he := Dflts.none hD rfl
  subst he
  clear hmg hD B D TE TW Y G
  refine codeP_call_def (binds := [(Str.ofString "script", .ref l)]) (by decide) ho hd (Top.nolimit T) hcd rfl (BindsTo.of_eq rfl) (by dsimp only [docDef]; decide) (locs rfl) (fun h₁ n₁ k₁ => ?_) rfl rfl rfl
  have F : Fr s₁.heap s₁.heap.objs.size h₁ _ := ⟨n₁, k₁, Nat.le_refl _⟩
  clear n₁ k₁
  show wpP _ (callerA.deeper (envOf (Str.ofString "law") _ s₁.heap.objs.size fa cd)) (execs _ (envOf (Str.ofString "law") _ s₁.heap.objs.size fa cd)) _ _
  have N := (News.nil : News _ _ _ []).at F
  have K0 := below_caller (Top.heap T)
  clear hd ho
  replace F := Mine.Fr.congr (m' := fun y => if y = Str.ofString "script" then some (.ref l) else none) F lk1
  refine wpP_ret ?_
  intro Qf hQf
  generalize s₁.heap.objs.size = L' at *
  refine wpP_tk (s := s₁) ?_
  intro tk
  dsimp only
  refine pExecs_any ?_
  k_steps
  rename Fr s₁.heap L' _ _ => F2
  rename News s₁.heap L' _ _ => N2
  rename IntsAre _ (List.take _ ns) => hI2'
  have hI2 : IntsAre _ (List.take 3 ns) := hI2'
  clear hI2'
  have hl3 : (List.take 3 ns).length ≤ 3 := by rw [List.length_take]; omega
  generalize List.take 3 ns = ms at *
  refine wpP_tk (s := s₁) ?_
  intro tk2
  refine pExecs_cons (pReturn_some (pCall_Name ?_))
  k_steps
  refine pCallWith_fn rfl (Nat.le_of_ble_eq_true rfl) (pEvalArgsB (wpP_of ?_))
  k_steps
  rename Fr s₁.heap L' _ _ => F3
  rename News s₁.heap L' _ _ => N3
  rename _ = rowOf ms ++ [30, 0] => hR3
  rename _ = Value.type "list" => oc3
  rename _ = Data.seq _ _ => od3
  rename IntsAre _ _ => hI3
  subst hR3
  refine FnOn.mk F3 KX (by k_is) ?_
  have K0' : Below callerA s₁.heap [] s₁.heap := K0
  have hq := fun t l => wheel_con w (plainOf ms) t l _ _ _ hI3 (Wh.init ms hl3)
  refine hq _ _ _ _ _ _ _ _ _ _ _ _ s₁.heap s₁.heap L' _ _ _ _ _ _ K0' F3 KX T rfl ⟨_, (N3 _ (.head _)).1, oc3, _, od3⟩ (by decide) (by decide) ?_
  rintro v h' tk' k rfl
  refine hQf _ _ ?_
  refine ⟨rfl, ?_, fun b o e => k _ _ (Fr.keep F3 _ _ e), rfl, hg⟩
  wrow_post

end Mine
theorem PySem.Challenge.cw_mq0024_01_holds : PySem.Challenge.rw_mq0024_01.Holds := by
  exact Mine.law_holds
