import PyProof.Rows.All
import Wide.All
import OpenK.AllK
import Wide.FinOn
import Lean
import PySem.Challenge.RW_ny0004_01
set_option Elab.async false
-- part C1
section PartC1
open PySem PySem.W PyProof.Rows PySem.Spec PySem.Calls
set_option maxRecDepth 100000
set_option maxHeartbeats 4000000
namespace Mine
open Sem (wp)
/-- the builtins whose activation may hold a bytearray's buffer -/
def holders : List String := Builtin.Bytes.decodersThatHold ++ ["bytearray.__contains__", "bytearray.__mod__", "bytearray.__rmod__", "_struct.pack_into.held", "bytearray.find.held"]
def okCode : Code → Bool
  | .builtin id _ => !holders.contains id
  | _ => true
def CleanL (l : List (Code × Pos)) : Prop := ∀ x ∈ l, okCode x.1 = true
/-- a tree run in any clean context within A; no exception leaves it -/
def wpC {α : Type} (M : Model) (A : Around) (t : Sem α) (Q : α → Shared → Prop) (s : Shared) : Prop :=
  ∀ Γ p, Γ.In A → okCode Γ.code = true → CleanL Γ.below → wp M Γ t (fun a _ s' => Q a s') (fun _ _ _ => False) p s
def ResOk (R : Flow → Shared → Prop) (r : Result) (s : Shared) : Prop := match r with
  | .ok f => R f s
  | .error _ => False
def codeC (M : Model) (A : Around) (c : Code) (R : Flow → Shared → Prop) (s : Shared) : Prop :=
  ∀ Γ p, Γ.code = c → Γ.Below A → CleanL Γ.below → wpCode M Γ (ResOk R) p s
section
variable {α β : Type} {M : Model} {A : Around} {s : Shared} {env : Env}
theorem cleanL_cons {c : Code} {p : Pos} {l : List (Code × Pos)} (hc : okCode c = true) (hl : CleanL l) : CleanL ((c, p) :: l) := by
  intro x hx
  rcases List.mem_cons.mp hx with rfl | hx
  · exact hc
  · exact hl x hx
theorem wpC_any {t : Sem α} {Q : α → Shared → Prop} (h : wpAny M A t Q (fun _ _ => False) s) : wpC M A t Q s := fun Γ p hΓ _ _ => h Γ p hΓ
theorem codeC_any {c : Code} {R : Flow → Shared → Prop} (h : codeAny M A c (ResOk R) s) : codeC M A c R s := fun Γ p hc hΓ _ => h Γ p hc hΓ
theorem wpC_mono {t : Sem α} {Q Q' : α → Shared → Prop} (h : wpC M A t Q s) (hQ : ∀ a s, Q a s → Q' a s) : wpC M A t Q' s :=
  fun Γ p hΓ h1 h2 => Sem.wp_mono M Γ t (fun a _ s => hQ a s) (fun _ _ _ x => x) p s (h Γ p hΓ h1 h2)
theorem wpC_pure {a : α} {Q : α → Shared → Prop} (h : Q a s) : wpC M A (pure a) Q s := fun _ _ _ _ _ => h
theorem wpC_bind {m : Sem α} {f : α → Sem β} {Q : β → Shared → Prop} (h : wpC M A m (fun a s' => wpC M A (f a) Q s') s) : wpC M A (m >>= f) Q s := fun Γ p hΓ h1 h2 => by
  rw [Sem.wp_bind']
  exact Sem.wp_mono M Γ m (fun a p' s' h' => h' Γ p' hΓ h1 h2) (fun _ _ _ x => x) p s (h Γ p hΓ h1 h2)
theorem wpC_holding {vs : List Value} {m : Sem α} {Q : α → Shared → Prop} (h : wpC M A m Q s) : wpC M A (holding vs m) Q s := fun Γ p hΓ h1 h2 => by
  rw [Sem.wp_holding]; exact h Γ p hΓ h1 h2
theorem wpC_keep {vs : List Value} {m : Sem α} {Q : α → Shared → Prop} (h : wpC M A m Q s) : wpC M A (m.keep vs) Q s := fun Γ p hΓ h1 h2 => by
  rw [Sem.wp_keep]; exact h Γ p hΓ h1 h2
theorem wpC_onRaise {m : Sem α} {k : Value → Sem Unit} {Q : α → Shared → Prop} (h : wpC M A m Q s) : wpC M A (m.onRaise k) Q s := fun Γ p hΓ h1 h2 => by
  rw [Sem.wp_onRaise]
  exact Sem.wp_mono M Γ m (fun _ _ _ x => x) (fun _ _ _ x => x.elim) p s (h Γ p hΓ h1 h2)
theorem wpC_standAt {pos : Pos} {Q : Unit → Shared → Prop} (h : Q () s) : wpC M A (standAt pos) Q s := fun _ _ _ _ _ => h
theorem wpC_point {Q : Unit → Shared → Prop} (h : Q () s) : wpC M A point Q s := wpC_any (wpAny_point h)
theorem wpC_rule {tag : String} {Q : Unit → Shared → Prop} (h : Q () s) : wpC M A (rule tag) Q s := fun _ _ _ _ _ => h
theorem wpC_of_eq {t : Sem α} {a : α} {Q : α → Shared → Prop} (e : t = pure a) (h : Q a s) : wpC M A t Q s := by rw [e]; exact wpC_pure h
theorem wpC_runValue {c : Code} {Q : Value → Shared → Prop} (hc : codeC M A c (fun f s' => match f with | .ret v => Q v s' | _ => False) s) : wpC M A (runValue c) Q s := fun Γ p hΓ h1 h2 => by
  rw [Sem.wp_runValue]
  refine wpCode_mono (fun r s' hr => ?_) (hc _ p rfl (hΓ.enter c none p (by intro x; cases x)) (cleanL_cons h1 h2))
  cases r with
  | error e => exact hr.elim
  | ok f => cases f <;> exact hr
theorem wpC_call {f : Value} {pos : List Value} {kw : List (Str × Value)} {Q : Value → Shared → Prop} (hc : codeC M A (.call f ⟨pos, kw⟩) (fun f s' => match f with | .ret v => Q v s' | _ => False) s) :
    wpC M A (call f pos kw) Q s := wpC_runValue hc
theorem wpC_run {c : Code} {Q : Flow → Shared → Prop} (hc : codeC M A c Q s) : wpC M A (run c none) Q s := fun Γ p hΓ h1 h2 => by
  rw [Sem.wp_run]
  refine wpCode_mono (fun r s' hr => ?_) (hc _ p rfl (hΓ.enter c none p (by intro x; cases x)) (cleanL_cons h1 h2))
  cases r with
  | error e => exact hr.elim
  | ok f => exact hr
theorem codeC_of_tree {c : Code} {R : Flow → Shared → Prop} (hok : okCode c = true)
    (h : wpC M (A.under c) (M.den c) (fun fin s' => match fin with | .done f => R f s' | .again c' => c'.quiet = true ∧ codeC M A c' R s') s) : codeC M A c R s := fun Γ p hc hΓ hl => by
  rw [wpCode_iff_wp, hc]
  refine Sem.wp_mono M Γ _ (fun fin p' s' h' => ?_) (fun _ _ _ h' => h'.elim) p s (h Γ p (hc ▸ hΓ.in) (hc ▸ hok) hl)
  cases fin with
  | done f => exact h'
  | again c' => exact ⟨h'.1, h'.2 (Γ.goto c') p' rfl (hΓ.goto c') hl⟩
end
end Mine
end PartC1
-- part C2
section PartC2
open PySem PySem.W PyProof.Rows PySem.Spec PySem.Calls
set_option maxRecDepth 100000
set_option maxHeartbeats 4000000
namespace Mine
open Sem (wp)
section
variable {M : Model} {A : Around} {s : Shared} {env : Env}
theorem execs_cons_C {st : Stmt} {rest : List Stmt} {Q : Flow → Shared → Prop}
    (h : wpC M A (exec st env) (fun f s' => match f with | .next => wpC M A (execs rest env) Q s' | f => Q f s') s) : wpC M A (execs (st :: rest) env) Q s := by
  rw [execs_cons]
  refine wpC_bind (wpC_mono h fun f s' h' => ?_)
  cases f <;> first | exact h' | exact wpC_pure h'
theorem execs_nil_C {Q : Flow → Shared → Prop} (h : Q .next s) : wpC M A (execs [] env) Q s := fun _ _ _ _ _ => h
theorem Assign_Name_C {x : Str} {pos' : Pos} {value : Expr} {pos : Pos} {Q : Flow → Shared → Prop}
    (h : wpC M A (eval value env) (fun v s₁ => wpAny M A (storeName env x v) (fun _ => Q .next) (fun _ _ => False) s₁) s)
    (hs : swapsWith value (some (.Name x pos')) pos.line env = pure false := by rfl) : wpC M A (exec (.Assign [.Name x pos'] value pos) env) Q s := by
  rw [exec_Assign_Name env x pos' value pos hs]
  exact wpC_bind (wpC_standAt (wpC_bind (wpC_mono h fun v s₁ h₁ => wpC_bind (wpC_standAt (wpC_bind (wpC_any (wpAny_bindName (wpAny_mono h₁ (fun _ _ x => wpC_pure x) fun _ _ x => x))))))))
theorem Assign_Tuple_C {elts : List Expr} {k : Nat} {tpos : Pos} {value : Expr} {pos : Pos} {names : List Str} {Q : Flow → Shared → Prop}
    (h : wpC M A (eval value env) (fun v s₁ => wpAny M A (unpackItems v names.length none) (fun items s₂ =>
      wpAny M A (assignInOrder (names.reverse.map fun n => bindName env n) items.reverse) (fun _ => Q .next) (fun _ _ => False) s₂) (fun _ _ => False) s₁) s)
    (hs : swapsWithSole [.Tuple elts k tpos] value pos.line env = pure false := by rfl)
    (hw : swappedStores [.Tuple elts k tpos] value env = pure (some names) := by rfl) : wpC M A (exec (.Assign [.Tuple elts k tpos] value pos) env) Q s := by
  rw [exec_Assign]
  refine wpC_bind (wpC_standAt ?_)
  rw [hs]
  refine wpC_bind (wpC_pure ?_)
  rw [if_neg (by decide)]
  refine wpC_bind (wpC_mono h fun v s₁ h₁ => ?_)
  rw [hw]
  refine wpC_bind (wpC_pure ?_)
  show wpC M A (do rule "assign.swapped-stores"; let items ← unpackItems v names.length none; assignInOrder (names.reverse.map fun n => bindName env n) items.reverse; pure .next) Q s₁
  exact wpC_bind (wpC_rule (wpC_bind (wpC_any (wpAny_mono h₁ (fun items s₂ h₂ => wpC_bind (wpC_any (wpAny_mono h₂ (fun _ _ x => wpC_pure x) fun _ _ x => x))) fun _ _ x => x))))
theorem Return_C {e : Expr} {pos : Pos} {Q : Flow → Shared → Prop} (h : wpC M A (eval e env) (fun v => Q (.ret v)) s) : wpC M A (exec (.Return (some e) pos) env) Q s := by
  rw [exec_Return_some]
  exact wpC_bind (wpC_standAt (wpC_bind (wpC_mono h fun v s' x => wpC_pure x)))
theorem Compare1_C {l : Expr} {op : CmpOp} {r : Expr} {pos : Pos} {Q : Value → Shared → Prop}
    (h : wpC M A (eval l env) (fun a s₁ => wpAny M A (eval r env) (fun b s₂ => wpAny M A (compareOp op a b) Q (fun _ _ => False) s₂) (fun _ _ => False) s₁) s)
    (hm : behindInMarks op r = false := by with_unfolding_all rfl) : wpC M A (eval (.Compare l [op] [r] pos) env) Q s := fun Γ p hΓ h1 h2 => by
  simp only [eval_Compare1, markedBehindIn_of_false hm, Sem.wp_bind', Sem.wp_holding, Sem.wp_cmd_standAt, Sem.wp_operate]
  exact Sem.wp_mono M Γ _ (fun a p₁ s₁ h₁ => Sem.wp_mono M Γ _ (fun b _ s₂ h₂ => h₂ Γ _ hΓ) (fun _ _ _ h' => h') _ _ (h₁ Γ p₁ hΓ)) (fun _ _ _ h' => h') _ _ (h Γ p hΓ h1 h2)
theorem spliced_cons_C {x : Sem Value} {rest : List (Bool × Sem Value)} {Q : List Value → Shared → Prop}
    (h : wpC M A x (fun v s₁ => wpC M A (spliced rest) (fun vs s₂ => Q (v :: vs) s₂) s₁) s) : wpC M A (spliced ((false, x) :: rest)) Q s := by
  rw [spliced]
  refine wpC_bind (wpC_mono h fun v s₁ h₁ => ?_)
  simp only [Bool.false_eq_true, if_false]
  exact wpC_bind (wpC_pure (wpC_bind (wpC_holding (wpC_mono h₁ fun vs s₂ h₂ => wpC_pure h₂))))
theorem spliced_nil_C {Q : List Value → Shared → Prop} (h : Q [] s) : wpC M A (spliced []) Q s := wpC_pure h
theorem evalArgs_C {f : Value} {x : Sem Value} {rest : List (Bool × Sem Value)} {Q : Args → Shared → Prop}
    (h : wpC M A (spliced ((false, x) :: rest)) (fun vs s' => Q ⟨vs, []⟩ s') s) : wpC M A (evalArgs f true ((false, x) :: rest) []) Q s := by
  unfold evalArgs
  show wpC M A (spliced ((false, x) :: rest) >>= _) Q s
  refine wpC_bind (wpC_mono h fun vs s' h' => ?_)
  refine wpC_holding ?_
  exact wpC_bind (wpC_pure (wpC_bind (wpC_pure (wpC_pure h'))))
theorem callWith_fun_C {pos : Pos} {a : Addr} {args : List (Bool × Sem Value)} {Q : Value → Shared → Prop} (hplain : args.any (·.1) = false)
    (h : wpC M A (evalArgs (.ref a) true args []) (fun x s₁ => (∃ o fd, s₁.heap.get? a = some o ∧ o.data = Data.func fd) ∧ wpC M A (call (.ref a) x.pos x.kw) Q s₁) s) :
    wpC M A (callWith pos (.ref a) [] args []) Q s := by
  unfold callWith
  refine wpC_bind (wpC_holding (wpC_mono h fun x s₁ h₁ => wpC_bind (wpC_standAt ?_)))
  obtain ⟨⟨o, fd, h2, h3⟩, h₁⟩ := h₁
  have tail : ∀ {t : Sem Value}, wpC M A t Q s₁ → wpC M A (t >>= fun r => holding [r] point >>= fun _ => pure r) Q s₁ :=
    fun ht => wpC_bind (wpC_mono ht fun r s₂ hr => wpC_bind (wpC_holding (wpC_point (wpC_pure hr))))
  simp only [hplain, List.any_nil, Bool.or_false]
  refine wpC_bind (m := keeperOf (.ref a)) (wpC_any ?_)
  unfold keeperOf
  refine wpAny_bind (wpAny_load h2 ?_)
  rw [h3]
  refine wpAny_pure ?_
  dsimp only
  split
  · exact tail h₁
  · exact tail (by unfold callMarked; exact wpC_keep h₁)
theorem callWith_type_C {pos : Pos} {T : String} {args : List (Bool × Sem Value)} {Q : Value → Shared → Prop} (hplain : args.any (·.1) = false)
    (h : wpC M A (evalArgs (.type T) true args []) (fun a s₁ => wpC M A (call (.type T) a.pos a.kw) Q s₁) s) :
    wpC M A (callWith pos (.type T) [] args []) Q s := by
  unfold callWith
  refine wpC_bind (wpC_holding (wpC_mono h fun x s₁ h₁ => wpC_bind (wpC_standAt ?_)))
  simp only [hplain, List.any_nil, Bool.or_false]
  refine wpC_bind (wpC_pure ?_)
  exact wpC_bind (wpC_mono h₁ fun r s₂ hr => wpC_bind (wpC_holding (wpC_point (wpC_pure hr))))
theorem items_nil_C {pos : Pos} {Q : List Value → Shared → Prop} (h : Q [] s) : wpC M A (spliced (backTo pos (starEach [] env))) Q s := wpC_pure h
theorem items_cons_C {pos : Pos} {e : Expr} {rest : List Expr} {Q : List Value → Shared → Prop}
    (h : wpC M A (eval e env) (fun v s₁ => wpC M A (spliced (backTo pos (starEach rest env))) (fun vs s₂ => Q (v :: vs) s₂) s₁) s)
    (he : starEach (e :: rest) env = (false, eval e env) :: starEach rest env := by rfl) : wpC M A (spliced (backTo pos (starEach (e :: rest) env))) Q s := by
  rw [he]
  exact spliced_cons_C (x := eval e env) h
def IsFn (h : Heap) (a : Addr) : Prop := ∃ o fd, h.get? a = some o ∧ o.data = Data.func fd
theorem CallF_C {pos : Pos} {a : Addr} {e : Expr} {rest : List Expr} {Q : Value → Shared → Prop}
    (h : wpC M A (spliced (backTo pos (starEach (e :: rest) env))) (fun vs s₁ => IsFn s₁.heap a ∧ wpC M A (call (.ref a) vs) Q s₁) s)
    (he : starEach (e :: rest) env = (false, eval e env) :: starEach rest env := by rfl) (hplain : (backTo pos (starEach (e :: rest) env)).any (·.1) = false := by rfl) :
    wpC M A (callWith pos (.ref a) [] (backTo pos (starEach (e :: rest) env)) []) Q s := by
  refine callWith_fun_C hplain ?_
  rw [he] at h ⊢
  exact evalArgs_C (x := eval e env) (wpC_mono h fun _ _ x => ⟨x.1, x.2⟩)
theorem CallT_C {pos : Pos} {T : String} {e : Expr} {Q : Value → Shared → Prop}
    (h : wpC M A (eval e env) (fun v s₁ => wpC M A (call (.type T) [v]) Q s₁) s)
    (he : starEach [e] env = [(false, eval e env)] := by rfl) :
    wpC M A (callWith pos (.type T) [] (backTo pos (starEach [e] env)) []) Q s := by
  rw [he]
  refine callWith_type_C rfl ?_
  exact evalArgs_C (x := eval e env) (spliced_cons_C (wpC_mono h fun v s₁ h₁ => spliced_nil_C h₁))
theorem Call_Name_C {id : Str} {p pos : Pos} {args : List Expr} {Q : Value → Shared → Prop}
    (h : wpAny M A (eval (.Name id p) env) (fun f s₁ => wpC M A (callWith pos f [] (backTo pos (starEach args env)) []) Q s₁) (fun _ _ => False) s) :
    wpC M A (eval (.Call (.Name id p) args [] pos) env) Q s := by
  show wpC M A (do callWith pos (← eval (.Name id p) env) [] (backTo pos (starEach args env)) (backToKw pos (keywordEach [] env))) Q s
  exact wpC_bind (wpC_any h)
end
section
variable {prog : Program} {w : World} {A : Around} {s : Shared} {env : Env}
theorem Tuple_C {elts : List Expr} {k : Nat} {pos : Pos} {Q : Value → Shared → Prop}
    (h : wpC (model prog w) A (spliced (backTo pos (starEach elts env))) (fun vs s₁ => vs.length ≤ sizeLine ∧ Q (.ref s₁.heap.objs.size) { s₁ with heap := s₁.heap.push { cls := .type "tuple", data := .seq vs.toArray } }) s) :
    wpC (model prog w) A (eval (.Tuple elts k pos) env) Q s := by
  rw [arm_eval_Tuple]
  exact wpC_bind (wpC_standAt (wpC_bind (wpC_mono h fun vs s₁ h₁ => wpC_any (wpAny_newTuple h₁.2 h₁.1))))
theorem codeC_func {body : List Stmt} {R : Flow → Shared → Prop}
    (h : wpC (model prog w) (A.deeper env) (execs body env) (fun f s' => R (.ret (match f with | .ret v => v | _ => .none)) s') s) : codeC (model prog w) A (.func body env) R s := by
  refine codeC_of_tree rfl ?_
  show wpC _ (A.deeper env) (do point; match ← (execs body env).onRaise (leaving env) with | .ret v => ret v | _ => ret .none) _ s
  refine wpC_bind (wpC_point (wpC_bind (wpC_onRaise (wpC_mono h fun f s' h' => ?_))))
  cases f <;> exact wpC_pure h'
theorem codeC_call_function {R : Flow → Shared → Prop} {a : Addr} {args : Args} {o : Obj} {fd : FuncData} {body : List Stmt} (hroom : A.depth < recursionLimit) (ho : s.heap.get? a = some o)
    (hd' : o.data = .func fd) (hco : fd.scope.isCoroutine = false) (hgen : fd.scope.isGenerator = false) (hbody : fd.body = .stmts body) (hcd : s.heap.CodeRec fd.code fd.qualname)
    (h : wpAny (model prog w) A.in1 (bindArgs fd args) (fun binds s₁ =>
      wpAny (model prog w) A.in1 (newFunctionEnv fd.scope fd.globals fd.closure binds (fd.qualname ++ ".<locals>.") (some a) fd.code none fd.builtins)
        (fun env s₂ => s₂.heap.NoLimit ∧ codeC (model prog w) A (.func body env) R s₂) (fun _ _ => False) s₁) (fun _ _ => False) s) :
    codeC (model prog w) A (.call (.ref a) args) R s := by
  refine codeC_of_tree rfl (wpC_any ?_)
  show wpAny _ A.in1 (callAny (.ref a) args) _ _ s
  simp only [callAny]
  refine wpAny_bind (wpAny_load ho ?_)
  obtain ⟨c, oc, vs, tq, hc, hoc, hdc, hq⟩ := hcd
  simp only [hd', callFunction, hco, hgen, hbody, hc]
  rw [hc] at h
  refine wpAny_bind (m := field (.ref c) 1) (wpAny_field hoc hdc hq (wpAny_bind (wpAny_pure ?_)))
  exact wpAny_bind (wpAny_mono h (fun binds s₁ h₁ => wpAny_bind (wpAny_mono h₁ (fun env s₂ h₂ => wpAny_bind (wpAny_enterFrame h₂.1 hroom
    (wpAny_pure (And.intro rfl h₂.2)))) fun _ _ h' => h')) fun _ _ h' => h')
end
section
variable {prog : Program} {w : World} {A A₀ : Around} {s : Shared} {K : Frag} {L : Addr} {h₀ base : Heap} {m mg mb : Str → Option Value} {p : Program} {loose : List Str} {mean : ExcName → Option Value}
/-- a def of the text called with a base of all that stands: clean mode -/
theorem codeC_def {env : Env} {outer : List Env} {R : Flow → Shared → Prop} {name qual : Str} {params : Arguments} {body : List Stmt} {scope : Scope} {dV kV doc pm cdv ct oc : Value} {an od : Option Addr} {osl : Array (Option Value)} {f : Addr} {args : Args} {binds : List (Str × Value)}
    (B : Below A₀ base outer h₀) (F : Fr h₀ L s.heap m) (X₀ : K.In h₀) (T : Top p loose mean mg mb h₀) (hA : A.frames = some (env :: outer)) (hf : env.frame = some L) (hke : env.scope.kind = .function)
    (ho : K.lookup f = some ⟨oc, od, .func (fnOf name qual params body scope dV kV doc pm an cdv ct), osl⟩) (hcd : codeIn K cdv qual = true) (hroom : A.depth < recursionLimit)
    (hbind : BindsTo s (fnOf name qual params body scope dV kV doc pm an cdv ct) args binds) (hloc : ∀ y ∈ binds, scope.names.lookup y.1 = some .local)
    (h : ∀ L' h₁, Fr s.heap L' h₁ (fun y => binds.reverse.lookup y) → Below A base (env :: outer) s.heap → K.In s.heap → Top p loose mean mg mb s.heap →
      wpC (model prog w) (A.deeper (envOf qual scope L' f cdv)) (execs body (envOf qual scope L' f cdv)) (fun fl s' => R (.ret (match fl with | .ret v => v | _ => .none)) s') { s with heap := h₁, toks := s.toks + binds.length })
    (hco : scope.isCoroutine = false) (hgen : scope.isGenerator = false) (hk : scope.kind = .function) (hcell : ∀ x ∈ scope.names, x.2 ≠ .cell) :
    codeC (model prog w) A (.call (.ref f) args) R s := by
  have X := X₀.keeps F.keep
  obtain ⟨FG, BG, st, _⟩ := groundX (R := ResOk R) (A := A) B F News.nil hA hf hke
  have eh : hideAll s.heap (([] : List (Addr × Obj)).map (·.1)) = s.heap := rfl
  rw [eh] at FG BG st
  refine codeC_call_function hroom (X _ _ ho) rfl hco hgen rfl (codeRec_of X hcd) (hbind _ _ _ _ ?_)
  refine wpAny_newFunctionEnv hcell hloc (fun h₁ hns hsb => ⟨(T.nolimit.keeps F.keep).fresh _ hsb, codeC_func ?_⟩) hk
  have hk₁ : ∀ b o, s.heap.get? b = some o → h₁.get? b = some o := fun b o e => hsb.extBut b o (Nat.ne_of_lt (Heap.lt_size e)) (Heap.get?_push_of_some _ e)
  exact h s.heap.objs.size h₁ ⟨hns, hk₁, Nat.le_refl _⟩ BG X (T.keeps st)
/-- the same for any context -/
theorem codeA_def {env : Env} {outer : List Env} {R : Flow → Shared → Prop} {name qual : Str} {params : Arguments} {body : List Stmt} {scope : Scope} {dV kV doc pm cdv ct oc : Value} {an od : Option Addr} {osl : Array (Option Value)} {f : Addr} {args : Args} {binds : List (Str × Value)}
    (B : Below A₀ base outer h₀) (F : Fr h₀ L s.heap m) (X₀ : K.In h₀) (T : Top p loose mean mg mb h₀) (hA : A.frames = some (env :: outer)) (hf : env.frame = some L) (hke : env.scope.kind = .function)
    (ho : K.lookup f = some ⟨oc, od, .func (fnOf name qual params body scope dV kV doc pm an cdv ct), osl⟩) (hcd : codeIn K cdv qual = true) (hroom : A.depth < recursionLimit)
    (hbind : BindsTo s (fnOf name qual params body scope dV kV doc pm an cdv ct) args binds) (hloc : ∀ y ∈ binds, scope.names.lookup y.1 = some .local)
    (h : ∀ L' h₁, Fr s.heap L' h₁ (fun y => binds.reverse.lookup y) → Below A base (env :: outer) s.heap → K.In s.heap → Top p loose mean mg mb s.heap →
      wpAny (model prog w) (A.deeper (envOf qual scope L' f cdv)) (execs body (envOf qual scope L' f cdv)) (fun fl s' => R (.ret (match fl with | .ret v => v | _ => .none)) s') (fun _ _ => False) { s with heap := h₁, toks := s.toks + binds.length })
    (hco : scope.isCoroutine = false) (hgen : scope.isGenerator = false) (hk : scope.kind = .function) (hcell : ∀ x ∈ scope.names, x.2 ≠ .cell) :
    codeAny (model prog w) A (.call (.ref f) args) (ResOk R) s := by
  have X := X₀.keeps F.keep
  obtain ⟨FG, BG, st, _⟩ := groundX (R := ResOk R) (A := A) B F News.nil hA hf hke
  have eh : hideAll s.heap (([] : List (Addr × Obj)).map (·.1)) = s.heap := rfl
  rw [eh] at FG BG st
  refine codeAny_call_def (fd := fnOf name qual params body scope dV kV doc pm an cdv ct) hroom (X _ _ ho) rfl (T.nolimit.keeps F.keep) (codeRec_of X hcd) rfl hbind hcell hloc (fun h₁ hns hk₁ => ?_) hco hgen hk
  exact wpAny_mono (h s.heap.objs.size h₁ ⟨hns, hk₁, Nat.le_refl _⟩ BG X (T.keeps st)) (fun _ _ x => x) fun _ _ x => x.elim
end
end Mine
end PartC2
-- part C3
section PartC3
open PySem PySem.W PyProof.Rows PySem.Spec PySem.Calls
set_option maxRecDepth 100000
set_option maxHeartbeats 4000000
namespace Mine
open Sem (wp)
theorem mro_ba : mroOf (.type "bytearray") = pure [.type "bytearray", .type "object"] := by rw [mroOf_type]; kernel_rfl
theorem lookup_ba_new : typeLookup (.type "bytearray") "__new__" = pure (some (.builtin "bytearray.__new__")) := by rw [typeLookup_type, builtinLookup_eq_fast]; kernel_rfl
theorem sub_ba : isSubtype (.type "bytearray") (.type "bytearray") = pure true := by rw [isSubtype_type]; kernel_rfl
theorem slot_ba_init : Slot "bytearray" "__init__" "bytearray.__init__" :=
  .of (owner := "bytearray") (n := "__init__") (by rw [typeLookup_type, builtinLookup_eq_fast]; kernel_rfl) (by decide +kernel) (by decide +kernel) (by decide +kernel)
    (by first | exact .inl (by decide +kernel) | exact .inr (by decide +kernel)) sub_ba
theorem slot_ba_setitem : Slot "bytearray" "__setitem__" "bytearray.__setitem__" :=
  .of (owner := "bytearray") (n := "__setitem__") (by rw [typeLookup_type, builtinLookup_eq_fast]; kernel_rfl) (by decide +kernel) (by decide +kernel) (by decide +kernel)
    (by first | exact .inl (by decide +kernel) | exact .inr (by decide +kernel)) sub_ba
theorem called_ba : TypeCalled "bytearray" "bytearray.__new__" "bytearray.__init__" :=
  ⟨by decide +kernel, by decide +kernel, ⟨_, _, mro_ba⟩, madeBy_type mro_ba lookup_ba_new (by decide +kernel), by decide +kernel, sub_ba, slot_ba_init⟩
theorem typeCall_ba (a : Value) : checkTypeCall "bytearray" ⟨[a], []⟩ = pure () := by kernel_rfl
theorem newCall_ba (a : Value) : checkBuiltinCall "bytearray.__new__" ⟨[.type "bytearray", a], []⟩ = pure () := by kernel_rfl
theorem entry_ba_new : entryFor table "bytearray.__new__" = some Builtin.«list.__new__» := entryFor_alias (id' := "list.__new__") (by kernel_rfl) (by decide +kernel) (by decide +kernel) (by kernel_rfl)
theorem entry_ba_init : entryFor table "bytearray.__init__" = some Builtin.«bytearray.__init__» := by first | exact entryFor_of_fast (by kernel_rfl) | exact entryFor_of_tree (by kernel_rfl)
theorem entry_ba_setitem : entryFor table "bytearray.__setitem__" = some Builtin.«bytearray.__setitem__» := by first | exact entryFor_of_fast (by kernel_rfl) | exact entryFor_of_tree (by kernel_rfl)
theorem plain_ba_new : plainId "bytearray.__new__" = true := by decide +kernel
theorem plain_ba_init : plainId "bytearray.__init__" = true := by decide +kernel
theorem args_ba_init (a b : Value) : argsOk "bytearray.__init__" ⟨[a, b], []⟩ := by
  first | exact trivial | (unfold argsOk; kernel_rfl) | kernel_rfl
set_option maxRecDepth 1000000 in
theorem owner_ba_new : ("bytearray.__new__".splitOn ".__new__").headD "" = "bytearray" := by simp +decide [String.splitOn, String.splitOnAux]
theorem look_ba_release : typeLookup (.type "bytearray") "__release_buffer__" = pure (some (.builtin "bytearray.__release_buffer__")) := by rw [typeLookup_type, builtinLookup_eq_fast]; kernel_rfl
theorem look_ba_buffer : typeLookup (.type "bytearray") "__buffer__" = pure (some (.builtin "bytearray.__buffer__")) := by rw [typeLookup_type, builtinLookup_eq_fast]; kernel_rfl
theorem look_ba_bytes : typeLookup (.type "bytearray") "__bytes__" = pure none := by rw [typeLookup_type, builtinLookup_eq_fast]; kernel_rfl
theorem look_ba_index : typeLookup (.type "bytearray") "__index__" = pure none := by rw [typeLookup_type, builtinLookup_eq_fast]; kernel_rfl
theorem look_int_index : typeLookup (.type "int") "__index__" = pure (some (.builtin "int.__index__")) := by rw [typeLookup_type, builtinLookup_eq_fast]; kernel_rfl
theorem bind_ba (v : Value) : Builtin.Bytes.bindOptional "bytearray.__init__" "bytearray" ["source", "encoding", "errors"] [v] [] = pure [some v, none, none] := by kernel_rfl
abbrev baOf (b : Array UInt8) : Obj := { cls := .type "bytearray", data := .bytearray b }
section
variable {prog : Program} {w : World} {A : Around} {s : Shared}
theorem code_ba_new (a : Value) {Q₁ : Value → Shared → Prop} {E : Value → Shared → Prop}
    (h : Q₁ (.ref s.heap.objs.size) { s with heap := s.heap.push (baOf #[]) }) :
    codeAny (model prog w) A (.call (.builtin "bytearray.__new__") ⟨[.type "bytearray", a], []⟩) (wants Q₁ E) s := by
  refine codeAny_of_tree ?_
  show wpAny _ A.in1 (do checkBuiltinCall "bytearray.__new__" ⟨[.type "bytearray", a], []⟩; again (.builtin "bytearray.__new__" ⟨[.type "bytearray", a], []⟩)) _ _ s
  refine wpAny_bind (wpAny_of_eq (newCall_ba a) (wpAny_pure ⟨plainId_quiet plain_ba_new _, codeAny_builtin_stack entry_ba_new rfl fun p st => ?_⟩))
  rw [Around.under_plainId plain_ba_new _]
  have hsub := sub_ba
  have hown := owner_ba_new
  obtain ⟨hp, g, d, tk, os⟩ := s
  simp only [hown]
  wp_walk
  exact h
theorem holders_of {id : String} (h : (!holders.contains id) = true) : Builtin.Bytes.decodersThatHold.contains id = false ∧ id ≠ "bytearray.__contains__" ∧ id ≠ "bytearray.__mod__" ∧ id ≠ "bytearray.__rmod__" ∧ id ≠ "_struct.pack_into.held" ∧ id ≠ "bytearray.find.held" := by
  simp only [holders, List.contains_append, List.contains_cons, List.contains_nil, Bool.or_false, Bool.not_or, Bool.and_eq_true, Bool.not_eq_true', beq_eq_false_iff_ne, ne_eq] at h
  exact h
theorem wpC_exported {Q : Bool → Shared → Prop} {v : Value} (h : Q false s) : wpC (model prog w) A (Builtin.Bytes.exported v) Q s := fun Γ p _ h1 h2 => by
  unfold Builtin.Bytes.exported
  rw [Sem.wp_bind']
  show wp _ Γ (.stack .pure) _ _ p s
  rw [Sem.wp_stack, Sem.wp_pure]
  show Q (List.any ((Γ.code, p) :: Γ.below) _) s
  refine (congrArg (fun b => Q b s) (?_ : _ = false)).mpr h
  rw [List.any_eq_false]
  rintro ⟨c, q⟩ hx
  have hc := cleanL_cons (p := p) h1 h2 _ hx
  cases c with
  | builtin id args =>
    obtain ⟨a1, a2, a3, a4, a5, a6⟩ := holders_of hc
    split <;> simp_all
  | _ => simp
theorem wpC_if_false {α : Type} {M : Model} {c : Bool} {a b : Sem α} {Q : α → Shared → Prop} (hc : c = false) (h : wpC M A b Q s) : wpC M A (if c = true then a else b) Q s := by subst hc; exact h
theorem wpC_if_true {α : Type} {M : Model} {c : Bool} {a b : Sem α} {Q : α → Shared → Prop} (hc : c = true) (h : wpC M A a Q s) : wpC M A (if c = true then a else b) Q s := by subst hc; exact h
theorem ba_type {S : Addr} {b : Array UInt8} (h : s.heap.get? S = some (baOf b)) : s.TypeIs (.ref S) "bytearray" := ⟨_, h, rfl⟩
theorem ba_release {S : Addr} {b : Array UInt8} {E : Value → Shared → Prop} {Q : Bool → Shared → Prop} (h : s.heap.get? S = some (baOf b)) (hQ : Q false s) : wpAny (model prog w) A (Builtin.Bytes.ownRelease (.ref S)) Q E s := by
  unfold Builtin.Bytes.ownRelease Builtin.Bytes.slotIsOwn
  refine wpAny_bind (wpAny_bind (wpAny_specialOf (ba_type h) look_ba_release ?_))
  dsimp only
  refine bm_if_false (by decide +kernel) ?_
  refine wpAny_isInstance (ba_type h) (b := true) ?_ ?_
  · rw [show (Value.type (String.dropRight "bytearray.__release_buffer__" ("__release_buffer__".length + 1))) = .type "bytearray" from by decide +kernel]
    exact sub_ba
  · exact wpAny_pure hQ
theorem ba_write {S : Addr} {b : Array UInt8} {f : Array UInt8 → Array UInt8} {E : Value → Shared → Prop} {Q : Unit → Shared → Prop} (hS : s.heap.get? S = some (baOf b)) (hz : (f b).size ≤ 16777216)
    (hQ : ∀ h', h'.get? S = some (baOf (f b)) → Heap.SameBut S s.heap h' → Q () { s with heap := h' }) : wpAny (model prog w) A (Builtin.Bytes.write (.ref S) f) Q E s := by
  show wpAny _ _ (updateBytearray S f) _ _ _
  unfold updateBytearray
  refine wpAny_bind (wpAny_load hS ?_)
  show wpAny _ _ (update S (Obj.mapBytearray f) >>= fun _ => lookBehind S) _ _ _
  refine wpAny_bind (wpAny_update hS ?_)
  have hS₂ : (s.heap.update S (Obj.mapBytearray f)).get? S = some (baOf (f b)) := Heap.get?_update_self (Obj.mapBytearray f) hS rfl
  refine wpAny_lookBehind hS₂ ?_ (hQ _ hS₂ (Heap.SameBut.update ..))
  show (if (f b).size > sizeLine then some "bytearray:memory" else none) = none
  rw [if_neg]
  rw [sizeLine_eq]
  omega
theorem ba_init {S : Addr} {n : Int} {t : Tok} {Q : Fin → Shared → Prop} (hS : s.heap.get? S = some (baOf #[])) (h0 : 0 ≤ n) (h1 : n ≤ 16777216)
    (hQ : ∀ h', h'.get? S = some (baOf (Array.replicate n.toNat 0)) → (∀ b o, b ≠ S → s.heap.get? b = some o → h'.get? b = some o) → Q (.done (.ret .none)) { s with heap := h' }) :
    wpC (model prog w) A (Builtin.«bytearray.__init__» ⟨[.ref S, .int n t], []⟩) Q s := by
  unfold Builtin.«bytearray.__init__»
  dsimp only
  refine wpC_bind (wpC_any (ba_release hS ?_))
  refine wpC_if_false rfl ?_
  refine wpC_bind (wpC_of_eq (bind_ba _) ?_)
  dsimp only
  refine wpC_bind (wpC_of_eq (a := ()) rfl ?_)
  refine wpC_bind (wpC_of_eq (a := ()) rfl ?_)
  refine wpC_bind ?_
  unfold orM
  refine wpC_bind (wpC_exported ?_)
  dsimp only [toBool]
  refine wpC_any ?_
  unfold Builtin.Bytes.exportsOf
  refine wpAny_bind (wpAny_bind (wpAny_load hS ?_))
  refine wpAny_pure (wpAny_pure ?_)
  refine wpC_any ?_
  refine bm_if_false (by decide) ?_
  refine wpAny_bind (ba_write hS (by simp) fun h₁ hS₁ hb₁ => ?_)
  refine wpAny_bind (wpAny_of_eq (a := none) rfl ?_)
  refine bm_if_false rfl ?_
  refine wpAny_bind (wpAny_of_eq (a := ()) rfl ?_)
  refine wpAny_bind (wpAny_specialOf (T := "int") (show Shared.TypeIs _ (.int n t) "int" from rfl) look_int_index ?_)
  refine bm_if_true rfl ?_
  refine wpAny_bind (wpAny_attempt (wpAny_of_eq (a := n) rfl ?_))
  dsimp only
  refine bm_if_false (by simp only [Builtin.Bytes.fitsIndex, Bool.not_eq_false', Bool.and_eq_true, decide_eq_true_eq]; omega) ?_
  rw [if_neg (by omega)]
  refine bm_if_false (by simp only [beq_eq_false_iff_ne, ne_eq]; omega) ?_
  refine bm_if_false (by simp only [Builtin.Bytes.tooLong, decide_eq_false_iff_not, sizeLine_eq]; omega) ?_
  refine wpAny_bind (wpAny_rule ?_)
  by_cases hn : n > 0
  · rw [if_pos hn]
    refine wpAny_bind (ba_write hS₁ (by simp; omega) fun h₂ hS₂ hb₂ => wpAny_pure (hQ h₂ hS₂ fun b o hne e => ?_))
    exact (hb₂.2 b hne).trans ((hb₁.2 b hne).trans e)
  · rw [if_neg hn]
    have hz : n.toNat = 0 := by omega
    refine wpAny_pure (hQ h₁ (by rw [hz]; exact hS₁) fun b o hne e => (hb₁.2 b hne).trans e)
theorem codeC_builtin {id : String} {args : Args} {b : Builtin} {R : Flow → Shared → Prop} (hok : okCode (.builtin id args) = true) (hb : entryFor table id = some b)
    (h : wpC (model prog w) (A.under (.builtin id args)) (b args) (fun fin s' => match fin with | .done f => R f s' | .again c' => c'.quiet = true ∧ codeC (model prog w) A c' R s') s) : codeC (model prog w) A (.builtin id args) R s := by
  refine codeC_of_tree hok ?_
  show wpC _ _ (match entryFor table id with | some b => b args | none => unsupported ((withoutEnding? id "#data").getD id)) _ s
  rw [hb]
  exact h
theorem codeC_call_builtin {id : String} {args : Args} {R : Flow → Shared → Prop} (hq : (Code.builtin id args).quiet = true)
    (h : wpC (model prog w) A.in1 (checkBuiltinCall id args) (fun _ s₁ => codeC (model prog w) A (.builtin id args) R s₁) s) : codeC (model prog w) A (.call (.builtin id) args) R s := by
  refine codeC_of_tree rfl ?_
  show wpC _ A.in1 (do checkBuiltinCall id args; again (.builtin id args)) _ s
  exact wpC_bind (wpC_mono h fun _ s₁ h₁ => wpC_pure (And.intro hq h₁))
theorem call_ba {n : Int} {t : Tok} {Q : Value → Shared → Prop} (h0 : 0 ≤ n) (h1 : n ≤ 16777216)
    (hQ : ∀ h', h'.get? s.heap.objs.size = some (baOf (Array.replicate n.toNat 0)) → (∀ b o, s.heap.get? b = some o → h'.get? b = some o) → Q (.ref s.heap.objs.size) { s with heap := h' }) :
    wpC (model prog w) A (call (.type "bytearray") [.int n t]) Q s := by
  refine wpC_call (codeC_of_tree rfl ?_)
  show wpC _ _ (callAny (.type "bytearray") _) _ _
  refine wpC_pure ⟨Code.quiet_builtin _ (by decide +kernel), codeC_builtin (show (!holders.contains "type.__call__") = true by decide +kernel) F.entry_type_call ?_⟩
  rw [Around.under_plain (weight_type_call_type "bytearray" [.int n t] []) rfl]
  unfold Builtin.«type.__call__»
  dsimp only
  refine wpC_if_false called_ba.notType ?_
  refine wpC_if_false called_ba.canCreate ?_
  refine wpC_bind (wpC_of_eq (typeCall_ba _) ?_)
  refine wpC_bind (wpC_of_eq mro_ba ?_)
  refine wpC_if_false rfl ?_
  refine wpC_bind (wpC_of_eq called_ba.made ?_)
  dsimp only
  refine wpC_bind (wpC_pure ?_)
  refine wpC_bind (wpC_holding (wpC_any (wpAny_call (codeAny_mono (code_ba_new (E := fun _ _ => False) (.int n t) (Q₁ := fun v s₁ => v = .ref s.heap.objs.size ∧ s₁ = { s with heap := s.heap.push (baOf #[]) }) ⟨rfl, rfl⟩) fun r s₁ hr => ?_))))
  cases r with
  | error e => exact hr
  | ok fl =>
    cases fl with
    | ret obj =>
      obtain ⟨rfl, rfl⟩ := hr
      have hS : (s.heap.push (baOf #[])).get? s.heap.objs.size = some (baOf #[]) := Heap.get?_push_size _ rfl
      refine wpC_bind (wpC_any (wpAny_isInstance (ba_type (s := { s with heap := s.heap.push (baOf #[]) }) hS) sub_ba ?_))
      refine wpC_if_false rfl ?_
      refine wpC_bind (wpC_holding ?_)
      unfold callSpecial?
      refine wpC_bind (wpC_any (wpAny_specialOf (ba_type (s := { s with heap := s.heap.push (baOf #[]) }) hS) slot_ba_init.lookup ?_))
      dsimp only
      refine wpC_holding (wpC_bind (wpC_of_eq (slot_ba_init.bind _) ?_))
      dsimp only
      refine wpC_bind (wpC_call (codeC_call_builtin (plainId_quiet plain_ba_init _) ?_))
      refine wpC_any (slot_ba_init.check _ _ _ _ _ _ _ _ (ba_type (s := { s with heap := s.heap.push (baOf #[]) }) hS) (args_ba_init _ _) ?_)
      refine codeC_builtin (show (!holders.contains "bytearray.__init__") = true by decide +kernel) entry_ba_init ?_
      refine ba_init hS h0 h1 fun h' hS' hk => ?_
      refine wpC_pure ?_
      dsimp only
      refine wpC_if_false rfl ?_
      exact wpC_pure (hQ h' hS' fun b o e => hk b o (Nat.ne_of_lt (Heap.lt_size e)) (Heap.get?_push_of_some _ e))
    | _ => exact hr.elim
end
theorem args_ba_setitem (a b c : Value) : argsOk "bytearray.__setitem__" ⟨[a, b, c], []⟩ := by
  first | exact trivial | (unfold argsOk; kernel_rfl) | kernel_rfl
section
variable {prog : Program} {w : World} {A : Around} {s : Shared} {E : Value → Shared → Prop}
theorem ba_set {S : Addr} {b : Array UInt8} {k x : Int} {t u : Tok} {Q : Unit → Shared → Prop} (hS : s.heap.get? S = some (baOf b)) (hz : b.size ≤ 16777216) (h0 : 0 ≤ k) (h1 : k < b.size) (x0 : 0 ≤ x) (x1 : x < 256)
    (hQ : ∀ h', h'.get? S = some (baOf (b.setIfInBounds k.toNat x.toNat.toUInt8)) → Heap.SameBut S s.heap h' → Q () { s with heap := h' }) :
    wpAny (model prog w) A (setItem (.ref S) (.int k t) (.int x u)) Q E s := by
  have hT := ba_type hS
  have hkb : k < 2 ^ 63 := by omega
  unfold setItem
  try with_reducible refine wpAny_holding ?_
  first | refine wpAny_bind (wpAny_pure ?_) | skip
  refine wpAny_bind (wpAny_sequenceKey hT (by decide) ?_)
  refine wpAny_bind (wpAny_callSpecial?_slot (name := Str.ofString "__setitem__") hT slot_ba_setitem
    (wpAny_call_entry slot_ba_setitem hT entry_ba_setitem ?_ (args_ba_setitem _ _ _)))
  unfold Builtin.«bytearray.__setitem__»
  dsimp only
  refine bm_if_false rfl ?_
  refine wpAny_bind ?_
  unfold Builtin.Bytes.subscript?
  refine wpAny_bind (wpAny_specialOf (T := "int") (show Shared.TypeIs _ (.int k t) "int" from rfl) look_int_index ?_)
  refine bm_if_false rfl ?_
  refine wpAny_bind (wpAny_of_eq (a := k) rfl ?_)
  refine bm_if_false (by simp only [Builtin.Bytes.fitsIndex, Bool.not_eq_false', Bool.and_eq_true, decide_eq_true_eq]; omega) ?_
  refine wpAny_pure ?_
  dsimp only
  refine wpAny_bind ?_
  unfold Builtin.Bytes.byteValue
  refine wpAny_bind (wpAny_of_eq (a := x) rfl ?_)
  refine bm_if_false (by simp only [Bool.or_eq_false_iff, decide_eq_false_iff_not]; omega) ?_
  refine wpAny_pure ?_
  refine wpAny_bind ?_
  unfold Builtin.Bytes.payload Builtin.Bytes.payload?
  refine wpAny_bind (wpAny_bind (wpAny_load hS ?_))
  refine wpAny_pure (wpAny_pure ?_)
  have hsi : seqIndex? k b.size = some k.toNat := by
    unfold seqIndex?
    simp only [if_neg (show ¬ k < 0 by omega)]
    rw [if_pos (by simp only [Bool.and_eq_true, decide_eq_true_eq]; omega)]
  rw [hsi]
  dsimp only
  refine wpAny_bind (ba_write hS (by simp; omega) fun h' hS' hb => ?_)
  exact wpAny_pure ⟨.none, rfl, wpAny_pure (hQ h' hS' hb)⟩
theorem ba_ownbuf {S : Addr} {b : Array UInt8} {Q : Bool → Shared → Prop} (h : s.heap.get? S = some (baOf b)) (hQ : Q true s) : wpAny (model prog w) A (Builtin.Bytes.slotIsOwn (.ref S) "__buffer__") Q E s := by
  unfold Builtin.Bytes.slotIsOwn
  refine wpAny_bind (wpAny_specialOf (ba_type h) look_ba_buffer ?_)
  dsimp only
  refine bm_if_false (by decide +kernel) ?_
  refine wpAny_isInstance (ba_type h) (b := true) ?_ hQ
  rw [show (Value.type (String.dropRight "bytearray.__buffer__" ("__buffer__".length + 1))) = .type "bytearray" from by decide +kernel]
  exact sub_ba
theorem ba_bytes {S : Addr} {b : Array UInt8} {Q : Value → Shared → Prop} (hS : s.heap.get? S = some (baOf b)) (hz : b.size ≤ 16777216)
    (hQ : ∀ t k, Q (.bytes b t) { s with toks := k }) : wpAny (model prog w) A (call (.type "bytes") [.ref S]) Q E s := by
  have hT := ba_type hS
  refine callType_codes (Q₁ := fun obj s₁ => s₁.TypeIs obj "bytes" ∧ Q obj s₁) F.bm_called (F.bm_typeCall _) F.entry_object_init ?_ fun obj s₁ h₁ => ?_
  · refine codeAny_of_tree ?_
    show wpAny _ A.in1.in1 (do checkBuiltinCall "bytes.__new__" ⟨[.type "bytes", .ref S], []⟩; again (.builtin "bytes.__new__" ⟨[.type "bytes", .ref S], []⟩)) _ _ s
    refine wpAny_bind (wpAny_of_eq (F.bm_newCall _) (wpAny_pure ⟨plainId_quiet F.bm_plain _, codeAny_builtin F.bm_entry ?_⟩))
    rw [Around.under_plainId F.bm_plain _]
    unfold Builtin.«bytes.__new__»
    refine wpAny_bind (wpAny_of_eq (a := true) rfl ?_)
    refine bm_if_false rfl ?_
    refine wpAny_bind (wpAny_of_eq F.bm_sub ?_)
    refine bm_if_false rfl ?_
    refine wpAny_bind (wpAny_of_eq (F.bm_bind _) ?_)
    refine wpAny_bind (wpAny_of_eq (a := ()) rfl ?_)
    refine wpAny_bind (wpAny_of_eq (a := ()) rfl ?_)
    refine bm_if_false rfl ?_
    refine wpAny_bind (wpAny_specialOf hT look_ba_bytes ?_)
    refine wpAny_bind (wpAny_bind ?_)
    show wpAny _ _ (load S >>= _) _ _ _
    refine wpAny_bind (wpAny_load hS ?_)
    refine wpAny_pure (wpAny_pure ?_)
    refine bm_if_false rfl ?_
    refine wpAny_bind (wpAny_specialOf hT look_ba_index ?_)
    refine bm_if_true rfl ?_
    first
      | show wpAny _ _ (Builtin.Bytes.buffer? "bytes.__new__" (.ref S) true >>= _) _ _ _
      | (refine wpAny_bind ?_; show wpAny _ _ (Builtin.Bytes.buffer? "bytes.__new__" (.ref S) true >>= _) _ _ _)
    refine wpAny_bind ?_
    unfold Builtin.Bytes.buffer?
    refine wpAny_bind (wpAny_specialOf hT look_ba_buffer ?_)
    dsimp only
    refine wpAny_bind (ba_ownbuf hS ?_)
    refine bm_if_false rfl ?_
    refine wpAny_bind (wpAny_specialOf hT look_ba_buffer ?_)
    refine wpAny_bind (ba_release hS ?_)
    refine bm_if_false rfl ?_
    unfold Builtin.Bytes.payload Builtin.Bytes.payload?
    refine wpAny_bind (wpAny_bind (wpAny_bind (wpAny_load hS ?_)))
    refine wpAny_pure (wpAny_pure (wpAny_pure ?_))
    refine wpAny_bind (wpAny_rule ?_)
    refine wpAny_bind (wpAny_mkBytes ?_ (by rw [sizeLine_eq]; exact hz))
    show wpAny _ _ (if (Value.type "bytes" == Value.type "bytes") = true then _ else _) _ _ _
    refine bm_if_true (by decide) ?_
    first
      | exact wpAny_pure ⟨PySem.W.typeIs_bytes _ _ _, hQ _ _⟩
      | exact wpAny_bind (wpAny_pure (wpAny_pure ⟨PySem.W.typeIs_bytes _ _ _, hQ _ _⟩))
  · exact ⟨h₁.1, F.args_object_init_2 obj _, object_init_meets F.bm_called.init.lookup F.bm_called.made (by decide) prog w A.in1 _ s₁ ⟨h₁.1, rfl, h₁.2⟩⟩
end
end Mine
end PartC3
-- part C4
section PartC4
open PySem PySem.W PyProof.Rows PySem.Spec PySem.Calls
set_option maxRecDepth 100000
set_option maxHeartbeats 4000000
namespace Mine
open Sem (wp)
def topCtx : PySem.Ctx := ⟨.builtin "claim.caller" {}, none, none, [], none⟩
theorem thread_ends_C {prog : Program} {w : World} {t : Sem PySem.Fin} {s : Shared} {R : Result → Shared → Prop} (hreg : s.asleep)
    (h : wpC (model prog w) callerA t (fun fin s' => ∃ f, fin = .done f ∧ (R (.ok f) s' ∧ leftWithCleanup s'.gens = false)) s) :
    ∃ n r s' s'', runN (denote table) prog w n s ⟨t, .builtin "claim.caller" {}, default, []⟩ = .halted (outcomeOf r) s' ∧
      schedN (denote table) prog w n (.single s ⟨t, .builtin "claim.caller" {}, default, []⟩) = .halted (outcomeOf r) s' ∧ s'.forget = s''.forget ∧ R r s'' := by
  have hw : wp (model prog w) topCtx t (Sem.finPost (model prog w) topCtx (fun r s' => R r s' ∧ leftWithCleanup s'.gens = false)) (fun e _ s' => R (.error e) s' ∧ leftWithCleanup s'.gens = false) default s := by
    refine Sem.wp_mono _ _ t (fun fin p' s' h' => ?_) (fun _ _ _ h' => h'.elim) default s (h topCtx default caller_in (show (!holders.contains "claim.caller") = true by decide +kernel) (fun _ hx => nomatch hx))
    obtain ⟨f, rfl, hf⟩ := h'
    exact hf
  obtain ⟨n, r, s₁, s₂, hs, hn, hfo, hR⟩ := wp_halts_full (M := model prog w) (R := R) hreg hw
  exact ⟨n, r, s₂, s₁, hn, hs, hfo, hR⟩
/-- the call from the top, in the one context that it is made in -/
abbrev WalkC (q : Program) (loose : List Str) (XP : (Str → Option Value) → Heap → Prop) (YP : World → Heap → Prop) (r : RowW) (d : DefRec) (kwd : List (Str × Expr)) (run : Value → List Value → Sem Value) : Prop :=
  ∀ (w : World) (s₀ s₁ : Shared) (mg mb : Str → Option Value), Ground q loose r.records XP w s₀ mg mb s₁.heap → YP w s₁.heap → ∀ (a : Addr) (o : Obj) (pm cd doc dV kV : Value), s₁.heap.get? a = some o →
    o.data = .func { docDef d.name d.params d.body d.scope pm cd doc with defaults := dV, kwdefaults := kV } → s₁.heap.CodeRec cd d.name → Dflts mg s₁.heap d.params kwd dV kV → mg d.name = some (.ref a) → s₁.gens = #[] →
    ∀ (args : List WData) (vals : List Value) (as : List Addr), r.claim.pre args = true → WData.layableAll args = true → ReadsAllW r.records (classAt s₀.heap) s₁.heap vals args as → WellAll w.params s₁.heap vals args → (∀ a ∈ as, (a == sysModules) = false) →
      wpC (model r.prog w) callerA (run (.ref a) vals) (fun v s' => GoodWG r.claim (classAt s₀.heap) (ExcName.means s₀.heap) args s₁ (.ok (.ret v)) s') s₁
theorem callFrom_C {c : ClaimW} {tree : List Value → Sem PySem.Fin} {w : World} {s : Shared} {free : Addr → Prop} {gens : Prop} {kept : Heap → Prop} (hz : s.asleep) (hgens : s.gens = #[])
    (hspec : ∀ args, c.pre args = true → WData.layableAll args = true → ∀ ord : List DictEntry → List DictEntry, (∀ l, (ord l).Perm l) →
      ∃ vs s₁, layAllW c.records (classAt s.heap) w.params ord args s = some (vs, s₁) ∧
        wpC (model c.prog w) callerA (tree vs) (fun fin s' => ∃ f, fin = .done f ∧ (c.Ends s args vs s₁ (.ok f) s' ∧ s'.os = s.os ∧ AllBare s'.gens ∧ kept s'.heap)) s₁) :
    c.CallFrom (fun vs => ⟨tree vs, .builtin "claim.caller" {}, default, []⟩) w free gens kept s := by
  intro args hpre hlay ord hord
  obtain ⟨vs, s₁, hlaid, hcode⟩ := hspec args hpre hlay ord hord
  have hal := layAllW_rest _ _ _ hlaid
  obtain ⟨k, r, s', s'', hrun, hsched, hfo, hcase, hos, hkp⟩ := thread_ends_C (prog := c.prog) (w := w) (t := tree vs) (s := s₁) (R := fun r s' => c.Ends s args vs s₁ r s' ∧ s'.os = s.os ∧ kept s'.heap)
    (Shared.asleep_of_life hal.2.2.2 hz) (wpC_mono hcode fun fin s' ⟨f, e, h1, h2, h3, h4⟩ => ⟨f, e, ⟨h1, h2, h4⟩, leftWithCleanup_false_of_bare h3⟩)
  obtain ⟨eh, _, _, eo, _⟩ := Shared.forget_eq hfo
  have hcase := hcase.congr eh
  have hkp : kept s'.heap := by first | exact eh ▸ hkp | (rw [eh] at hkp; exact hkp) | (rw [← eh] at hkp; exact hkp)
  rw [← eo] at hos
  have hlife : s'.heap.life = s.heap.life := (runN_life _ _ _ hrun).trans hal.2.2.2
  refine ⟨vs, s₁, hlaid, k, _, s', hsched, ?_, (fun _ i x hx => by rw [hgens] at hx; simp at hx), hkp, by rw [hlife], Shared.rest_eq hos⟩
  rcases hcase with ⟨v, rfl, d1, d2, d3, d4, d5⟩ | ⟨e, ob, cls, rfl, d1, d2, d3, d4, d5⟩
  · exact .inl ⟨v, rfl, d1, d2, d3, fun b o y _ => d4 b o y, d5⟩
  · exact .inr ⟨e, ob, cls, rfl, d1, d2, d3, d4, fun b o y _ => d5 b o y⟩
end Mine
namespace Mine.PySem.W
theorem holds_open {r : OpenRow} {q : Program} {loose : List Str} {Xt : Shared → Bool} {XP : (Str → Option Value) → Heap → Prop} {α : Type} {Yf : Shared → α} {Ya : World → α} {YP : World → Heap → Prop} {d : DefRec} {kwd : List (Str × Expr)} {N : Nat}
    (left : LeftO r.prog q loose Xt Yf Ya N) (hY : ∀ w s, Yf s = Ya w → YP w s.heap) (hYk : ∀ w h h', YP w h → (∀ b o, h.get? b = some o → h'.get? b = some o) → YP w h')
    (hX : ∀ s, Xt s = true → XP (s.heap.nsMap mainGlobals) s.heap) (hXk : ∀ mg h h', XP mg h → (∀ b o, h.get? b = some o → h'.get? b = some o) → XP mg h')
    (hdef : defOf q r.name = some (d, kwd)) (hp : r.prog.theDef r.name = some (d.params, d.body, d.scope)) (hk : kwWritten? d.params.kwonlyargs d.params.kw_defaults = some kwd) (hRf : ∀ s, Xt s = true → RecFacts r.records s.heap) (hwr : (!r.writes || r.records.isEmpty) = true)
    (k1 : r.wellSaid = true) (ok : (chainsOk q && opensWell r.prog && (frees r.toRowW && r.within.isEmpty)) = true) (hb : r.prog.bare) (hw : r.toRowW.promised)
    (call : WalkC q loose XP YP r.toRowW d kwd fun f vs => PySem.call f vs) : r.Holds := by
  refine ⟨k1, hw, ?_⟩
  obtain ⟨ok, k5⟩ := Bool.and_eq_true_iff.mp ok
  obtain ⟨hch, o1⟩ := Bool.and_eq_true_iff.mp ok
  obtain ⟨k5, k6⟩ := Bool.and_eq_true_iff.mp k5
  obtain ⟨hsame, hu, ha, hap, hm⟩ := frees_parts k5
  refine ⟨⟨hb, o1, by show r.toRowW.makers.map _ = []; rw [hm]; rfl⟩, hw.witness, fun w => ⟨(left.behind hX hch w).1, fun s' hs' => ?_⟩⟩
  obtain ⟨s₀, hf, hg0, s, hT, hz, hgens, hg, G00, y⟩ := (left.behind (XP := fun mg h => XP mg h ∧ RecFacts r.records h) (fun s hs => ⟨hX s hs, hRf s hs⟩) hch w).2 s' hs'
  have G0 : Ground q loose [] XP w s (s.heap.nsMap mainGlobals) (s.heap.nsMap builtinsNs) s.heap := ⟨G00.T, G00.B, G00.D, G00.TE, G00.TD, G00.W, G00.X.1, G00.cls, G00.has, G00.apart, G00.once, G00.K⟩
  have RF := G00.X.2
  have hT' := hT
  refine ⟨s₀, hf, hg0, s, hT, fun n hn => ?_, RF.1, RF.2.1, ?_⟩
  · obtain rfl : n = r.name := by split at hn <;> simp_all
    exact pinned_of_view hg G0 hdef hp hk
  have hgens : s.gens = #[] := Array.eq_empty_of_size_eq_zero (beq_iff_eq.mp hgens)
  have G : Ground q loose r.records XP w s _ _ s.heap := RF.ground G0
  refine callFrom_C (c := r.toRowW.claim) hz hgens fun args hpre hlay ord hord => ?_
  obtain ⟨⟨vs, s₁⟩, hlaid⟩ := Option.isSome_iff_exists.mp (layAllW_isSome (P := w.params) (ord := ord) G.has args r.args s (pre_splitW hpre).1)
  have keeps := layAllW_keeps _ _ _ hlaid
  have hal := layAllW_rest _ _ _ hlaid
  obtain ⟨as, hrd, hin, hold⟩ := reads_layAllW hord _ _ _ hlaid hlay s₁.heap (fun _ _ e => e)
  have L : Laid r.records w s s₁ args vs as := ⟨⟨ord, hord, hlaid⟩, hrd, hin, hold, keeps, hal.1.trans hgens, hal.2.2.1⟩
  have G₁ := G.keeps hXk keeps
  obtain ⟨a, o, pm, cd, doc, dV, kV, h1, h2, h3, h4, h5⟩ := G₁.fn hdef
  have h := call w s s₁ _ _ G₁ (hYk _ _ _ (hY w s y) keeps) a o pm cd doc dV kV h2 h3 h4 h5 (defOf_name hdef ▸ h1) L.gens args vs as hpre hlay L.reads L.well (L.low G.low)
  have hi := ident_freeW hu ha hap
  have hwi : r.toRowW.claim.within = [] := List.isEmpty_iff.mp k6
  refine ⟨vs, s₁, hlaid, wpC_bind (wpC_any (wpAny_nsGet G₁.T.g ?_))⟩
  rw [h1]
  refine wpC_bind (wpC_mono h fun v s' g => wpC_pure ⟨_, rfl, ?_⟩)
  have z := g.laid (c := r.toRowW.claim) hsame hwi hi L
  exact ⟨z.1, z.2.1, z.2.2, fun q => ⟨namesKept_of hT' hg _ keeps g.2.1.old, noTable hwr q⟩⟩
end Mine.PySem.W
end PartC4
-- part C5
section PartC5
open PySem PySem.W PyProof.Rows PySem.Spec PySem.Calls
set_option maxRecDepth 100000
set_option maxHeartbeats 8000000
namespace Mine
open_top hd for PySem.Challenge.rw_ny0004_01
end Mine
end PartC5
-- part L1
section PartL1
open PySem PySem.W PyProof.Rows PySem.Spec PySem.Calls
set_option maxRecDepth 100000
set_option maxHeartbeats 4000000
namespace Mine
/-- what holds between two turns: the ledger, the named names, the rest as it stood -/
def KS {σ : Type} (Led : σ → List (Addr × Obj)) (ps : σ → List (Str × Value)) (x : Str) (stored : List Str) (m₀ : Str → Option Value) (P : Nat → σ → Prop) (i : Nat) (m : Str → Option Value) (nx : List (Addr × Obj)) : Prop :=
  ∃ c : σ, nx = Led c ∧ (∀ p ∈ ps c, m p.1 = some p.2) ∧ (∀ z, z ≠ x → (∀ p ∈ ps c, z ≠ p.1) → stored.contains z = false → m z = m₀ z) ∧ P i c
section
variable {prog : Program} {w : World} {A : Around} {E : Value → Shared → Prop} {s : Shared} {env : Env} {h₀ : Heap} {x : Str} {body : List Stmt} {Q : Flow → Shared → Prop}
theorem ks_end {σ : Type} {Led : σ → List (Addr × Obj)} {ps : σ → List (Str × Value)} {stored : List Str} {m₀ : Str → Option Value} {P : Nat → σ → Prop} {i : Nat} (c : σ) {L : Addr} {m' : Str → Option Value} {own news' : List (Addr × Obj)} {adr : List Addr} {s₁ : Shared} {h' : Heap} {tk : Nat}
    (F : Fr h₀ L h' m') (N : News h₀ L h' news') (hn : ∀ p ∈ Led c, p ∈ news') (ho : ∀ p ∈ own, p ∈ news') (ha : (Led c).map (·.1) = adr) (hk : ∀ p ∈ ps c, m' p.1 = some p.2)
    (hr : ∀ z, z ≠ x → (∀ p ∈ ps c, z ≠ p.1) → stored.contains z = false → m' z = m₀ z) (hp : P i c) :
    InvEndN h₀ L (KS Led ps x stored m₀ P i) own adr s₁ { s₁ with heap := h', toks := tk } :=
  InvEndN.intro F N ⟨c, rfl, hk, hr, hp⟩ ha hn ho
/-- a loop over any iterator, by what holds between the turns -/
theorem any_loop {σ : Type} {I : Addr} {fp wr : List Addr} {n : Nat} {V : Nat → Value → Prop} {St : Nat → Heap → Prop} {m₀ : Str → Option Value} (Led : σ → List (Addr × Obj)) (ps : σ → List (Str × Value)) (stored : List Str) (P : Nat → σ → Prop) (c₀ : σ)
    (W : Walks prog w A I fp wr n V St) (hLf : env.locals ∉ fp) (hwr : ∀ b ∈ wr, h₀.get? b = none) (hnw : ∀ p ∈ Led c₀, p.1 ∉ wr) (hfp : ∀ q ∈ Led c₀, q.1 ∉ fp) (hst : St 0 s.heap)
    (F : Fr h₀ env.locals s.heap m₀) (N : News h₀ env.locals s.heap (Led c₀)) (hk : ∀ p ∈ ps c₀, m₀ p.1 = some p.2) (hp : P 0 c₀)
    (turn : ∀ (i : Nat) (v : Value) (c : σ) (u : Str → Option Value) h tk own, i < n → V i v → OwnOff own ((Led c₀).map (·.1)) → P i c →
      Fr h₀ env.locals h (fun y => if y = x then some v else kstB (fun z => if stored.contains z then u z else m₀ z) (ps c) y) → News h₀ env.locals h (Led c ++ own) →
      wpAny (model prog w) A (execs body env) (InvPostN h₀ env.locals (KS Led ps x stored m₀ P (i + 1)) own ((Led c₀).map (·.1)) { s with heap := h, toks := tk } Q) E { s with heap := h, toks := tk })
    (done : ∀ (c : σ) (u : Str → Option Value) h tk, P n c → Fr h₀ env.locals h (fun y => if y = x then u y else kstB (fun z => if stored.contains z then u z else m₀ z) (ps c) y) → News h₀ env.locals h (Led c) → Q .next { s with heap := h, toks := tk }) :
    LoopAtV prog w A h₀ env x body Q E (.ref I) s := by
  refine loop_invN (fun i m nx => KS Led ps x stored m₀ P i m nx) W hLf hwr hnw hfp hst F N ⟨c₀, rfl, hk, fun _ _ _ _ => rfl, hp⟩ ?_ ?_
  · rintro i v m₁ nx h tk own hi hv _ hoff ⟨c, rfl, h1, h2, hp'⟩ F₁ N₁
    exact turn i v c m₁ h tk own hi hv hoff hp' (kst_fr h1 h2 F₁) N₁
  · rintro m₁ nx h tk ⟨c, rfl, h1, h2, hp'⟩ F₁ N₁
    exact done c m₁ h tk hp' (kst_frOut h1 h2 F₁) N₁
theorem range_loop {σ : Type} {r : Addr} {a₀ b₀ c₁ : Int} {t₀ u₀ v₀ : Tok} {n : Nat} {m₀ : Str → Option Value} (Led : σ → List (Addr × Obj)) (ps : σ → List (Str × Value)) (stored : List Str) (P : Nat → σ → Prop) (c₀ : σ)
    (hh : A.handled = none) (hr : IsRange s.heap r a₀ b₀ c₁ t₀ u₀ v₀) (hsmall : Builtin.Range.small a₀ b₀ c₁ = true) (hn : Builtin.Range.rangeSize a₀ b₀ c₁ = (n : Int))
    (F : Fr h₀ env.locals s.heap m₀) (N : News h₀ env.locals s.heap (Led c₀)) (hk : ∀ p ∈ ps c₀, m₀ p.1 = some p.2) (hp : P 0 c₀)
    (turn : ∀ (i : Nat) (t : Tok) (c : σ) (u : Str → Option Value) h tk own, i < n → OwnOff own ((Led c₀).map (·.1)) → P i c →
      Fr h₀ env.locals h (fun y => if y = x then some (.int (a₀ + i * c₁) t) else kstB (fun z => if stored.contains z then u z else m₀ z) (ps c) y) → News h₀ env.locals h (Led c ++ own) →
      wpAny (model prog w) A (execs body env) (InvPostN h₀ env.locals (KS Led ps x stored m₀ P (i + 1)) own ((Led c₀).map (·.1)) { s with heap := h, toks := tk } Q) E { s with heap := h, toks := tk })
    (done : ∀ (c : σ) (u : Str → Option Value) h tk, P n c → Fr h₀ env.locals h (fun y => if y = x then u y else kstB (fun z => if stored.contains z then u z else m₀ z) (ps c) y) → News h₀ env.locals h (Led c) → Q .next { s with heap := h, toks := tk }) :
    wpAny (model prog w) A (pyIter (.ref r)) (fun it s₂ => LoopAtV prog w A h₀ env x body Q E it s₂) E s := by
  refine wpAny_pyIter_range hr hsmall ?_
  have fresh : ∀ p ∈ Led c₀, p.1 ∉ [s.heap.objs.size] := fun p hp hI => absurd (Heap.lt_size (N p hp).1) ((List.mem_singleton.mp hI) ▸ Nat.lt_irrefl _)
  refine any_loop Led ps stored P c₀ (Walks.range hh s.heap.objs.size a₀ c₁ n) ?_ ?_ fresh fresh (by show IsRangeIter _ _ _ _ _; rw [hn]; simpa using Heap.get?_push_size _ rfl) (F.push _) (fun p hp => ⟨Heap.get?_push_of_some _ (N p hp).1, (N p hp).2⟩) hk hp ?_ done
  · intro hm
    exact absurd F.ns.lt ((List.mem_singleton.mp hm) ▸ Nat.lt_irrefl _)
  · intro b hb
    rw [List.mem_singleton.mp hb]
    exact next_is_new F
  · rintro i v c u h tk own hi ⟨t, rfl⟩ hoff hp' F₁ N₁
    exact turn i t c u h tk own hi hoff hp' F₁ N₁
theorem list_loop {σ : Type} {l : Addr} {vs : List Value} {m₀ : Str → Option Value} (Led : σ → List (Addr × Obj)) (ps : σ → List (Str × Value)) (stored : List Str) (P : Nat → σ → Prop) (c₀ : σ)
    (hh : A.handled = none) (hl : h₀.IsList l vs.toArray)
    (F : Fr h₀ env.locals s.heap m₀) (N : News h₀ env.locals s.heap (Led c₀)) (hk : ∀ p ∈ ps c₀, m₀ p.1 = some p.2) (hp : P 0 c₀)
    (turn : ∀ (i : Nat) (v : Value) (c : σ) (u : Str → Option Value) h tk own, i < vs.length → vs[i]? = some v → OwnOff own ((Led c₀).map (·.1)) → P i c →
      Fr h₀ env.locals h (fun y => if y = x then some v else kstB (fun z => if stored.contains z then u z else m₀ z) (ps c) y) → News h₀ env.locals h (Led c ++ own) →
      wpAny (model prog w) A (execs body env) (InvPostN h₀ env.locals (KS Led ps x stored m₀ P (i + 1)) own ((Led c₀).map (·.1)) { s with heap := h, toks := tk } Q) E { s with heap := h, toks := tk })
    (done : ∀ (c : σ) (u : Str → Option Value) h tk, P vs.length c → Fr h₀ env.locals h (fun y => if y = x then u y else kstB (fun z => if stored.contains z then u z else m₀ z) (ps c) y) → News h₀ env.locals h (Led c) → Q .next { s with heap := h, toks := tk }) :
    wpAny (model prog w) A (pyIter (.ref l)) (fun it s₂ => LoopAtV prog w A h₀ env x body Q E it s₂) E s := by
  have hls : s.heap.IsList l vs.toArray := hl.at fun o e => F.keep l o e
  obtain ⟨ol, hol, _⟩ := id hl
  have hlt : l < h₀.objs.size := Heap.lt_size hol
  have hne : l ≠ s.heap.objs.size := Nat.ne_of_lt (Nat.lt_trans (Nat.lt_of_lt_of_le hlt F.above) F.ns.lt)
  refine wpAny_pyIter_list hls ?_
  have W := Walks.list (prog := prog) (w := w) hh s.heap.objs.size l hne vs.toArray
  have hsz : vs.toArray.size = vs.length := by simp
  rw [hsz] at W
  refine any_loop Led ps stored P c₀ W ?_ ?_ ?_ ?_ ⟨⟨_, Heap.get?_push_size _ rfl, rfl, rfl⟩, hls.at fun o e => Heap.get?_push_of_some _ e⟩ (F.push _) (fun p hp => ⟨Heap.get?_push_of_some _ (N p hp).1, (N p hp).2⟩) hk hp ?_ done
  · intro hm
    rcases List.mem_cons.mp hm with e | hm
    · exact absurd F.ns.lt (e ▸ Nat.lt_irrefl _)
    · exact absurd (Nat.lt_of_lt_of_le hlt F.above) ((List.mem_singleton.mp hm) ▸ Nat.lt_irrefl _)
  · intro b hb
    rw [List.mem_singleton.mp hb]
    exact next_is_new F
  · intro p hp hI
    exact absurd (Heap.lt_size (N p hp).1) ((List.mem_singleton.mp hI) ▸ Nat.lt_irrefl _)
  · intro p hp hI
    rcases List.mem_cons.mp hI with e | hI
    · exact absurd (Heap.lt_size (N p hp).1) (e ▸ Nat.lt_irrefl _)
    · have h3 := (N p hp).2.2
      rw [List.mem_singleton.mp hI, hol] at h3
      cases h3
  · rintro i v c u h tk own hi hv hoff hp' F₁ N₁
    exact turn i v c u h tk own hi (by simpa using hv) hoff hp' F₁ N₁
end
section
variable {prog : Program} {w : World} {A : Around} {E : Value → Shared → Prop} {s : Shared} {h₀ : Heap} {L : Addr} {m : Str → Option Value} {news news' : List (Addr × Obj)}
theorem call_baK {n : Int} {t : Tok} {Q : Value → Shared → Prop} (F : Fr h₀ L s.heap m) (N : News h₀ L s.heap news) (h0 : 0 ≤ n) (h1 : n ≤ 16777216)
    (hQ : ∀ a h', Fr h₀ L h' m → News h₀ L h' ((a, baOf (Array.replicate n.toNat 0)) :: news) → (∀ p ∈ news, p.1 < a) → Q (.ref a) { s with heap := h' }) :
    wpC (model prog w) A (call (.type "bytearray") [.int n t]) Q s := by
  refine call_ba h0 h1 fun h' hg hk => hQ _ h' (F.keptAll hk) (fun p hp => ?_) (fun p hp => Heap.lt_size (N p hp).1)
  rcases List.mem_cons.mp hp with rfl | hp
  · exact ⟨hg, Nat.ne_of_gt F.ns.lt, next_is_new F⟩
  · exact N.grown hk p hp
theorem ba_setK {S : Addr} {b : Array UInt8} {k v : Int} {t u : Tok} {Q : Unit → Shared → Prop} (F : Fr h₀ L s.heap m) (N : News h₀ L s.heap news) (U : Upd S (baOf b) (baOf (b.setIfInBounds k.toNat v.toNat.toUInt8)) news news')
    (hz : b.size ≤ 16777216) (h0 : 0 ≤ k) (h1 : k < b.size) (x0 : 0 ≤ v) (x1 : v < 256) (hQ : ∀ h', Fr h₀ L h' m → News h₀ L h' news' → Q () { s with heap := h' }) :
    wpAny (model prog w) A (setItem (.ref S) (.int k t) (.int v u)) Q E s := by
  obtain ⟨pre, post, rfl, rfl, a, b⟩ := U.split
  have z := N (S, _) (List.mem_append.mpr (.inr (.head _)))
  exact ba_set z.1 hz h0 h1 x0 x1 fun h' hS hb => hQ h' (F.change hb z.2.1 z.2.2) (news_set N a b hb hS)
theorem ba_bytesK {S : Addr} {b : Array UInt8} {Q : Value → Shared → Prop} (N : News h₀ L s.heap news) (hm : (S, baOf b) ∈ news) (hz : b.size ≤ 16777216)
    (hQ : ∀ t k, Q (.bytes b t) { s with toks := k }) : wpAny (model prog w) A (call (.type "bytes") [.ref S]) Q E s := ba_bytes (N _ hm).1 hz hQ
end
end Mine
end PartL1
-- part P1
section PartP1
open PySem PySem.W PyProof.Rows
namespace Mine
def rv (k i : Nat) : Nat := i / k * k + (k - 1 - i % k)
theorem rv_at {k i j : Nat} (hj : j < k) : rv k (i * k + k - 1 - j) = i * k + j := by
  have e : i * k + k - 1 - j = (k - 1 - j) + k * i := by rw [Nat.mul_comm k i]; omega
  have hk : 0 < k := by omega
  unfold rv
  rw [e, Nat.add_mul_div_left _ _ hk, Nat.add_mul_mod_self_left, Nat.div_eq_of_lt (by omega), Nat.mod_eq_of_lt (by omega), Nat.zero_add]
  omega
theorem getD_set {arr : Array UInt8} {q p : Nat} {v : UInt8} (hq : q < arr.size) : (arr.setIfInBounds q v).getD p 0 = if p = q then v else arr.getD p 0 := by
  rw [Array.getD_eq_getD_getElem?, Array.getD_eq_getD_getElem?, Array.getElem?_setIfInBounds]
  by_cases h : q = p
  · subst h; simp [hq]
  · rw [if_neg h, if_neg (fun e => h e.symm)]
theorem swap_step {arr b : Array UInt8} {k i j : Nat} {v : UInt8} (hj : j < k) (hsz : arr.size = b.size) (hij : i * k + k ≤ b.size) (hv : v = b.getD (i * k + j) 0)
    (h1 : ∀ p, p < i * k → arr.getD p 0 = b.getD (rv k p) 0) (h2 : ∀ p, i * k + k - j ≤ p → p < i * k + k → arr.getD p 0 = b.getD (rv k p) 0) :
    (arr.setIfInBounds (i * k + k - 1 - j) v).size = b.size ∧ (∀ p, p < i * k → (arr.setIfInBounds (i * k + k - 1 - j) v).getD p 0 = b.getD (rv k p) 0) ∧
      ∀ p, i * k + k - (j + 1) ≤ p → p < i * k + k → (arr.setIfInBounds (i * k + k - 1 - j) v).getD p 0 = b.getD (rv k p) 0 := by
  refine ⟨by simp [hsz], fun p hp => ?_, fun p hp hp' => ?_⟩
  · rw [getD_set (by omega), if_neg (by omega)]
    exact h1 p hp
  · rw [getD_set (by omega)]
    by_cases e : p = i * k + k - 1 - j
    · rw [if_pos e, e, rv_at hj, hv]
    · rw [if_neg e]
      exact h2 p (by omega) hp'
theorem bInts_getD (b : Array UInt8) (i : Nat) : (((KBw.bInts b).getD i 0).toNat).toUInt8 = b.getD i 0 := by
  unfold KBw.bInts
  by_cases h : i < b.size
  · simp [List.getD_eq_getElem?_getD, Array.getD_eq_getD_getElem?, h]
  · simp [List.getD_eq_getElem?_getD, Array.getD_eq_getD_getElem?, h]
theorem range_size {n k q : Nat} (hn : n = k * q) (hk : 0 < k) : Builtin.Range.rangeSize 0 (n : Int) (k : Int) = (q : Int) := by
  unfold Builtin.Range.rangeSize
  rw [if_pos (by omega)]
  subst hn
  by_cases hq : q = 0
  · subst hq; simp
  · obtain ⟨r, rfl⟩ : ∃ r, q = r + 1 := ⟨q - 1, by omega⟩
    have hpos : 0 < k * (r + 1) := Nat.mul_pos hk (by omega)
    rw [if_pos (by omega)]
    have e : ((k * (r + 1) : Nat) : Int) - 0 - 1 = ((k : Int) - 1) + (k : Int) * (r : Int) := by
      rw [Int.natCast_mul, Int.natCast_add, Int.mul_add]
      omega
    rw [e, Int.add_mul_ediv_left _ _ (by omega), Int.ediv_eq_zero_of_lt (by omega) (by omega)]
    omega
theorem range_small {n k : Nat} (hn : n ≤ 8) (hk : 0 < k) (hk8 : k ≤ 8) : Builtin.Range.small 0 (n : Int) (k : Int) = true := by
  have all : ∀ k1 ∈ List.range 8, ∀ n ∈ List.range 9, Builtin.Range.small 0 ((n : Nat) : Int) ((k1 + 1 : Nat) : Int) = true := by decide
  obtain ⟨k1, rfl⟩ : ∃ k1, k = k1 + 1 := ⟨k - 1, by omega⟩
  exact all k1 (List.mem_range.mpr (by omega)) n (List.mem_range.mpr (by omega))
end Mine
end PartP1
-- part S1
section PartS1
open PySem PySem.W PyProof.Rows PySem.Spec PySem.Calls
set_option maxRecDepth 100000
set_option maxHeartbeats 8000000
namespace Mine
local macro_rules | `(tactic| k_steps) => `(tactic| repeat' (first | (k_unfold; (try dsimp only)) | ((fail_if_success (with_reducible show wpAny _ _ (pyIter (Value.ref _)) _ _ _)); (first | (k_end; wrow_close) | walk1 | (dsimp only; walk1) | (leave1; walk_say "STEP leave1"; try dsimp only) | fail "no step"))))
section
variable {w : World} {p : Program} {loose : List Str} {mean : ExcName → Option Value} {mg mb : Str → Option Value}
   {dp un : Nat} {gd : Option (List Code)} {cn : Str} {cs : Scope} {a : Addr} {ccd : Value} {cl : List (Str × Addr)} {outer : List Env} {A₀ : Around} {base h₀ : Heap} {L : Addr} {m : Str → Option Value} {s : Shared}
theorem swap_C {b : Array UInt8} {tb : Tok} {k q : Nat} {tw : Tok} {Q : Value → Shared → Prop}
    (X : (Mine.hd.heap_39 w.params).In h₀) (B : Below A₀ base outer h₀) (F : Fr h₀ L s.heap m) (T : Top p loose mean mg mb h₀) (hk : cs.kind = .function)
    (hb : b.size = k * q) (hk0 : 0 < k) (hb8 : b.size ≤ 8) (hk8 : k ≤ 8) (hd1 : dp + 1 < recursionLimit)
    (hret : ∀ b' t h' tk', b'.size = b.size → (∀ i, i < b.size → b'.getD i 0 = b.getD (rv k i) 0) → (∀ b o, s.heap.get? b = some o → h'.get? b = some o) → Q (.bytes b' t) { s with heap := h', toks := tk' }) :
    wpC (model PySem.Challenge.rw_ny0004_01.row.prog w) (ktrTop dp un gd cn cs L a ccd cl outer) (call (.ref 21) [.bytes b tb, .int k tw]) Q s := by
  w_top off
  revert X
  k_fill
  intro X
  refine wpC_call ?_
  k_dflt (refine' codeC_def (binds := [(Str.ofString "data", .bytes b tb), (Str.ofString "width", .int k tw)]) B F X T ?kA ?kF ?kK ?k6 ?k7 ?k8 ?k9 ?kB ?_ ?c2 ?c3 ?c4 ?c5; (case kA => exact rfl); (case kF => exact rfl); (case kK => assumption); (case k6 => k_is); (case k7 => k_is); (case k8 => ktr_room); (case k9 => exact BindsTo.of_eq rfl); (case c5 => decide); (case kB => exact locs rfl); (case c2 => exact rfl); (case c3 => exact rfl); (case c4 => exact rfl))
  intro L' h₁ F₁ B₁ X₁ T₁
  clear F X T B
  have N₁ : News s.heap L' h₁ [] := News.nil
  generalize hm₁ : (fun y => List.lookup y [(Str.ofString "data", Value.bytes b tb), (Str.ofString "width", Value.int k tw)].reverse) = m₁ at F₁
  dsimp only
  refine execs_cons_C (Assign_Name_C (Call_Name_C ?_))
  subst hm₁
  k_steps
  refine CallT_C (wpC_any ?_)
  k_steps
  dsimp only
  refine call_baK (by assumption) (by assumption) (by omega) (by omega) ?_
  intro S h₂ F₂ N₂ l₂
  dsimp only
  k_steps
  refine wpC_any ?_
  k_steps
  (rename IsRange _ _ _ _ _ _ _ _ => R₃); (rename Fr _ _ _ _ => F₃); (rename News _ _ _ _ => N₃)
  refine range_loop (fun arr : Array UInt8 => [(S, baOf arr)]) (fun _ => []) [Str.ofString "j"] (fun i arr => arr.size = b.size ∧ ∀ p, p < i * k → arr.getD p 0 = b.getD (rv k p) 0) (Array.replicate b.size 0)
    rfl R₃ ?small ?size (n := q) F₃ ?N (fun _ hp => nomatch hp) ?P0 ?turn ?done
  case small => exact range_small hb8 hk0 hk8
  case size => exact range_size hb hk0
  case N => exact N₃
  case P0 => exact ⟨by simp, fun p hp => by omega⟩
  case turn =>
    clear N₃ F₃ R₃
    intro i ti arr u₄ h₄ tk₄ own₄ hi off₄ hP₄ F₄ N₄
    simp only [List.nil_append, List.cons_append, List.append_nil] at N₄
    (try dsimp only)
    (try k_fold)
    k_steps
    (rename IsRange _ _ _ _ _ _ _ _ => R₅); (rename Fr _ _ _ _ => F₅); (rename News _ _ _ _ => N₅)
    refine range_loop (fun arr : Array UInt8 => (S, baOf arr) :: own₄) (fun _ => []) [] (fun j arr => arr.size = b.size ∧ (∀ p, p < i * k → arr.getD p 0 = b.getD (rv k p) 0) ∧ ∀ p, i * k + k - j ≤ p → p < i * k + k → arr.getD p 0 = b.getD (rv k p) 0) arr
      rfl R₅ ?small2 ?size2 (n := k) F₅ ?N2 (fun _ hp => nomatch hp) ?P02 ?turn2 ?done2
    case small2 => exact small_one (by omega) (by omega) (by omega) (by omega)
    case size2 => rw [rangeSize_one]; split <;> omega
    case N2 => exact N₅
    case P02 => exact ⟨hP₄.1, hP₄.2, fun p h1 h2 => by omega⟩
    case turn2 =>
      clear N₅ F₅ R₅
      intro j tj arr' u₆ h₆ tk₆ own₆ hj off₆ hP₆ F₆ N₆
      simp only [List.nil_append, List.cons_append, List.append_nil] at N₆
      (try dsimp only)
      (try k_fold)
      k_steps
      have hij : i * k + k ≤ b.size := by
        have := Nat.mul_le_mul_right k (Nat.succ_le_of_lt hi)
        rw [Nat.succ_mul, Nat.mul_comm q k] at this
        omega
      have hij' : ((i * k : Nat) : Int) + ((k : Nat) : Int) ≤ ((b.size : Nat) : Int) := by omega
      rw [Int.natCast_mul] at hij'
      have hik : (0 : Int) ≤ (i : Int) * (k : Int) := Int.mul_nonneg (by omega) (by omega)
      refine KBw.item_K rfl (by rw [KBw.ints_length]; omega) (by omega) (by rw [KBw.ints_length]; omega) ?_
      intro t₇ k₇ lo₇ hi₇
      k_steps
      (rename Fr _ _ _ _ => F₇); (rename News _ _ _ _ => N₇)
      have hne : ∀ p ∈ own₄ ++ own₆, p.1 ≠ S := fun p hp => (List.mem_append.mp hp).elim (OwnOff.ne off₄ (List.Mem.head _) p) (OwnOff.ne off₆ (List.Mem.head _) p)
      refine ba_setK F₇ N₇ (Upd.head hne) (by omega) (by omega) (by omega) lo₇ hi₇ ?_
      clear F₇ N₇
      intro h₈ F₈ N₈
      k_steps
      have ei : (0 + (i : Int) * (k : Int) + (k : Int) - 1 - (0 + (j : Int) * 1)).toNat = i * k + k - 1 - j := by
        have := Int.natCast_mul i k
        omega
      have ej : (0 + (i : Int) * (k : Int) + (0 + (j : Int) * 1)).toNat = i * k + j := by
        have := Int.natCast_mul i k
        omega
      rw [ei, ej, bInts_getD] at N₈
      refine ks_end (arr'.setIfInBounds (i * k + k - 1 - j) (b.getD (i * k + j) 0)) F₈ N₈ ?_ ?_ rfl (fun _ hp => nomatch hp) ?_ (swap_step hj hP₆.1 hij rfl hP₆.2.1 hP₆.2.2)
      · intro p hp
        rcases List.mem_cons.mp hp with rfl | hp
        · exact .head _
        · exact .tail _ (List.mem_append.mpr (.inl hp))
      · exact fun p hp => .tail _ (List.mem_append.mpr (.inr hp))
      · intro z h1 _ _
        simp [h1, kstB]
    case done2 =>
      clear N₅ F₅ R₅
      intro arr' u₆ h₆ tk₆ hP₆ F₆ N₆
      dsimp only
      k_steps
      refine ks_end arr' F₆ N₆ (fun p hp => ?_) (fun p hp => .tail _ hp) rfl (fun _ hp => nomatch hp) ?_ ⟨hP₆.1, fun p hp => ?_⟩
      · rw [List.mem_singleton.mp hp]; exact .head _
      · intro z h1 _ h3
        by_cases hz : z = Str.ofString "j"
        · subst hz; simp at h3
        · simp [h1, hz, kstB]
      · rw [Nat.succ_mul] at hp
        by_cases hp' : p < i * k
        · exact hP₆.2.1 p hp'
        · exact hP₆.2.2 p (by omega) hp
  case done =>
    clear N₃ F₃ R₃
    intro arr u₄ h₄ tk₄ hP₄ F₄ N₄
    dsimp only
    k_steps
    refine ba_bytesK N₄ (.head _) (by omega) fun t₅ k₅ => ?_
    refine hret arr t₅ h₄ k₅ hP₄.1 (fun i hi => hP₄.2 i (by rw [Nat.mul_comm, ← hb]; exact hi)) F₄.keep
end
end Mine
end PartS1
-- part P2
section PartP2
open PySem PySem.W PyProof.Rows
namespace Mine
theorem fig_eq (i sz : Nat) : ((0 + (i : Int) * 1).fdiv (sz : Int)).fmod 2 = ((i / sz % 2 : Nat) : Int) := by
  rw [Int.fdiv_eq_ediv_of_nonneg _ (by omega), Int.fmod_eq_emod_of_nonneg _ (by omega)]
  simp
def ledAt (ns bs : List Int) (a00 a01 a10 a11 md : Int) (sz p : Nat) : Int :=
  if p / sz % 2 = 0 then (a00 * ns.getD p 0 + a01 * bs.getD p 0) % md else (a10 * bs.getD p 0 + a11 * ns.getD p 0) % md
/-- a row led over at one figure -/
def ledL (ns : List Int) (a00 a01 a10 a11 md : Int) (sz : Nat) : List Int :=
  (List.range ns.length).map fun p => if p / sz % 2 = 0 then (a00 * ns.getD p 0 + a01 * ns.getD (p + sz) 0) % md else (a10 * ns.getD (p - sz) 0 + a11 * ns.getD p 0) % md
theorem rv_rv {sz i : Nat} (h0 : 0 < sz) (h4 : sz ≤ 4) (hi : i < 8) : rv (2 * sz) (rv sz i) = if i / sz % 2 = 0 then i + sz else i - sz := by
  have all : ∀ s1 ∈ List.range 4, ∀ i ∈ List.range 8, rv (2 * (s1 + 1)) (rv (s1 + 1) i) = if i / (s1 + 1) % 2 = 0 then i + (s1 + 1) else i - (s1 + 1) := by decide
  obtain ⟨s1, rfl⟩ : ∃ s1, sz = s1 + 1 := ⟨sz - 1, by omega⟩
  exact all s1 (List.mem_range.mpr (by omega)) i (List.mem_range.mpr hi)
theorem rv_lt {k q i n : Nat} (hn : n = k * q) (hi : i < n) : rv k i < n := by
  subst hn
  have hk : 0 < k := Nat.pos_of_mul_pos_right (Nat.lt_of_le_of_lt (Nat.zero_le _) hi)
  have h1 : i / k < q := Nat.div_lt_of_lt_mul hi
  have h2 := Nat.mul_le_mul_right k (Nat.succ_le_of_lt h1)
  rw [Nat.succ_mul, Nat.mul_comm q k] at h2
  unfold rv
  omega
theorem byteArr_getD {ns : List Int} {j : Nat} (h : KBa.In ns) (hj : j < ns.length) : ((((byteArr ns).getD j 0).toNat : Nat) : Int) = ns.getD j 0 := by
  have e := KBa.ints_make h
  have e2 : (KBw.bInts (byteArr ns)).getD j 0 = ns.getD j 0 := by rw [e]
  rw [← e2]
  unfold KBw.bInts
  simp [List.getD_eq_getElem?_getD, Array.getD_eq_getD_getElem?, byteArr, hj]
theorem beside_at {ns : List Int} {b₃ b₄ : Array UInt8} {sz q i : Nat} (h : KBa.In ns) (hlen : ns.length = 2 * sz * q) (h8 : ns.length ≤ 8) (h0 : 0 < sz) (hq : 0 < q) (z₃ : b₃.size = (byteArr ns).size) (z₄ : b₄.size = b₃.size)
    (g₃ : ∀ i, i < (byteArr ns).size → b₃.getD i 0 = (byteArr ns).getD (rv (2 * sz) i) 0) (g₄ : ∀ i, i < b₃.size → b₄.getD i 0 = b₃.getD (rv sz i) 0) (hi : i < ns.length) :
    (KBw.bInts b₄).getD i 0 = ns.getD (if i / sz % 2 = 0 then i + sz else i - sz) 0 := by
  have h2sz : 2 * sz ≤ 2 * sz * q := Nat.le_mul_of_pos_right _ hq
  have hz : b₄.size = ns.length := by rw [z₄, z₃, byteArr_size]
  have e1 : (KBw.bInts b₄).getD i 0 = (((b₄.getD i 0).toNat : Nat) : Int) := by
    unfold KBw.bInts
    simp [List.getD_eq_getElem?_getD, Array.getD_eq_getD_getElem?, hz, hi]
  have hr : rv sz i < ns.length := rv_lt (k := sz) (q := 2 * q) (by rw [hlen, Nat.mul_comm 2 sz, Nat.mul_assoc]) hi
  have hr2 : rv (2 * sz) (rv sz i) < ns.length := rv_lt (k := 2 * sz) (q := q) hlen hr
  rw [e1, g₄ i (by rw [z₃, byteArr_size]; exact hi), g₃ _ (by rw [byteArr_size]; exact hr), byteArr_getD h hr2, rv_rv h0 (by omega) (by omega)]
theorem ledL_eq {ns bs : List Int} {a00 a01 a10 a11 md : Int} {sz : Nat} (h : ∀ i, i < ns.length → bs.getD i 0 = ns.getD (if i / sz % 2 = 0 then i + sz else i - sz) 0) :
    (List.range ns.length).map (ledAt ns bs a00 a01 a10 a11 md sz) = ledL ns a00 a01 a10 a11 md sz := by
  unfold ledL
  refine List.map_congr_left fun p hp => ?_
  have hp' := h p (List.mem_range.mp hp)
  unfold ledAt
  by_cases e : p / sz % 2 = 0
  · rw [if_pos e, if_pos e, hp', if_pos e]
  · rw [if_neg e, if_neg e, hp', if_neg e]
end Mine
end PartP2
-- part S2
section PartS2
open PySem PySem.W PyProof.Rows PySem.Spec PySem.Calls
set_option maxRecDepth 100000
set_option maxHeartbeats 8000000
namespace Mine
theorem fn_at {K : Frag} {h h' : Heap} {f : Addr} {oc : Value} {od : Option Addr} {fd : FuncData} {osl : Array (Option Value)} (X : K.In h) (k : ∀ b o, h.get? b = some o → h'.get? b = some o) (e : K.lookup f = some ⟨oc, od, .func fd, osl⟩) :
    IsFn h' f := ⟨_, fd, k _ _ (X _ _ e), rfl⟩
local macro_rules | `(tactic| k_steps) => `(tactic| repeat' (first | (k_unfold; (try dsimp only)) | ((fail_if_success (with_reducible show wpAny _ _ (pyIter (Value.ref _)) _ _ _)); (first | (k_end; wrow_close) | walk1 | (dsimp only; walk1) | (leave1; walk_say "STEP leave1"; try dsimp only) | fail "no step"))))
section
variable {w : World} {p : Program} {loose : List Str} {mean : ExcName → Option Value} {mg mb : Str → Option Value}
   {dp un : Nat} {gd : Option (List Code)} {cn : Str} {cs : Scope} {a : Addr} {ccd : Value} {cl : List (Str × Addr)} {outer : List Env} {A₀ : Around} {base h₀ : Heap} {L : Addr} {m : Str → Option Value} {s : Shared}
theorem led_C {row tab t0 t1 : Addr} {vs : List Value} {ns : List Int} {a00 a01 a10 a11 md : Int} {k00 k01 k10 k11 u1 u2 : Tok} {sz q : Nat} {Q : Value → Shared → Prop}
    (X : (Mine.hd.heap_39 w.params).In h₀) (B : Below A₀ base outer h₀) (F : Fr h₀ L s.heap m) (T : Top p loose mean mg mb h₀) (hk : cs.kind = .function)
    (hrow : s.heap.IsList row vs.toArray) (hints : IntsAre vs ns) (hin : KBa.In ns) (hlen : ns.length = 2 * sz * q) (hlen8 : ns.length ≤ 8) (hsz : 0 < sz) (hq : 0 < q)
    (htab : s.heap.IsList tab #[.ref t0, .ref t1]) (ht0 : s.heap.IsList t0 #[.int a00 k00, .int a01 k01]) (ht1 : s.heap.IsList t1 #[.int a10 k10, .int a11 k11])
    (hb00 : -1000 ≤ a00 ∧ a00 ≤ 1000) (hb01 : -1000 ≤ a01 ∧ a01 ≤ 1000) (hb10 : -1000 ≤ a10 ∧ a10 ≤ 1000) (hb11 : -1000 ≤ a11 ∧ a11 ≤ 1000) (hmd : 0 < md) (hd1 : dp + 2 < recursionLimit)
    (hret : ∀ r vs' n h' tk', h'.get? r = some (listOf vs'.toArray n) → s.heap.get? r = none → IntsAre vs' (ledL ns a00 a01 a10 a11 md sz) → (∀ b o, s.heap.get? b = some o → h'.get? b = some o) → Q (.ref r) { s with heap := h', toks := tk' }) :
    wpC (model PySem.Challenge.rw_ny0004_01.row.prog w) (ktrTop dp un gd cn cs L a ccd cl outer) (call (.ref 49) [.ref row, .ref tab, .int sz u1, .int md u2]) Q s := by
  w_top off
  revert X
  k_fill
  intro X
  refine wpC_call ?_
  k_dflt (refine' codeC_def (binds := [(Str.ofString "row", .ref row), (Str.ofString "table", .ref tab), (Str.ofString "size", .int sz u1), (Str.ofString "modulus", .int md u2)]) B F X T ?kA ?kF ?kK ?k6 ?k7 ?k8 ?k9 ?kB ?_ ?c2 ?c3 ?c4 ?c5; (case kA => exact rfl); (case kF => exact rfl); (case kK => assumption); (case k6 => k_is); (case k7 => k_is); (case k8 => ktr_room); (case k9 => exact BindsTo.of_eq rfl); (case c5 => decide); (case kB => exact locs rfl); (case c2 => exact rfl); (case c3 => exact rfl); (case c4 => exact rfl))
  intro L' h₁ F₁ B₁ X₁ T₁
  clear F X T B
  have N₁ : News s.heap L' h₁ [] := News.nil
  (try dsimp only)
  refine execs_cons_C (Assign_Name_C (Call_Name_C ?_))
  k_steps
  refine CallF_C (items_cons_C (Call_Name_C ?_))
  k_steps
  refine CallF_C (items_cons_C (wpC_any ?_))
  k_steps
  refine items_cons_C (wpC_any ?_)
  k_steps
  (rename Fr _ _ _ _ => F₂); (rename News _ _ _ _ => N₂)
  refine items_nil_C ⟨fn_at X₁ F₂.keep (by k_is), ?_⟩
  (try dsimp only)
  have h2sz : 2 * sz ≤ 2 * sz * q := Nat.le_mul_of_pos_right _ hq
  refine swap_C (k := 2 * sz) (q := q) X₁ B₁ F₂ T₁ rfl (by rw [byteArr_size]; exact hlen) (by omega) (by rw [byteArr_size]; exact hlen8) (by omega) (by show dp + 1 + 1 < _; omega) ?_
  intro b₃ t₃ h₃ k₃ z₃ g₃ kp₃
  have F₃ := F₂.keptAll kp₃
  have N₃ := N₂.grown kp₃
  clear F₂ N₂
  (try dsimp only)
  refine items_cons_C (wpC_any ?_)
  k_steps
  (rename Fr _ _ _ _ => F₂); (rename News _ _ _ _ => N₂)
  refine items_nil_C ⟨fn_at X₁ F₂.keep (by k_is), ?_⟩
  (try dsimp only)
  refine swap_C (k := sz) (q := 2 * q) X₁ B₁ F₂ T₁ rfl (by rw [z₃, byteArr_size, hlen, Nat.mul_comm 2 sz, Nat.mul_assoc]) (by omega) (by rw [z₃, byteArr_size]; exact hlen8) (by omega) (by show dp + 1 + 1 < _; omega) ?_
  intro b₄ t₄ h₄ k₄ z₄ g₄ kp₄
  have F₄ := F₂.keptAll kp₄
  have N₄ := N₂.grown kp₄
  clear F₂ N₂
  (try dsimp only)
  k_steps
  refine wpC_any ?_
  have H8 := PySem.Flt.Hid.mk hlen8
  have hlenB : ns.length ≤ 1000 := by omega
  clear hlen8
  k_steps
  rename_i D _ _ _ _ _ _ _ _ _ _ R₅ F₅ N₅ kp₅
  obtain ⟨bs, hbs⟩ : ∃ bs, KBw.bInts b₄ = bs := ⟨_, rfl⟩
  have hbl : bs.length = ns.length := by rw [← hbs, KBw.ints_length, z₄, z₃, byteArr_size]
  refine range_loop (fun c : List Value × List Int × Nat => [(D, W.listOf c.1.toArray c.2.2)]) (fun _ => []) [Str.ofString "figure", Str.ofString "pair"]
    (fun i c => IntsAre c.1 c.2.1 ∧ c.2.1 = (List.range i).map (ledAt ns bs a00 a01 a10 a11 md sz)) ([], [], 0)
    rfl R₅ ?small ?size (n := ns.length) F₅ ?N (fun _ hp => nomatch hp) ?P0 ?turn ?done
  case small => exact small_one (by omega) (by omega) (by omega) (by omega)
  case size => rw [rangeSize_one]; split <;> omega
  case N => exact N₅
  case P0 => exact ⟨.nil, rfl⟩
  case turn =>
    clear N₅ F₅ R₅ kp₅
    intro i ti c u₆ h₆ tk₆ own₆ hi off₆ hP₆ F₆ N₆
    obtain ⟨vs', ns', cnt⟩ := c
    simp only [List.nil_append, List.cons_append] at N₆
    (try dsimp only)
    dsimp only at hP₆ N₆
    (try k_fold)
    k_steps
    have hf := fig_eq i sz
    have hlen' : vs'.length = i := by rw [hP₆.1.length, hP₆.2]; simp
    have two : i / sz % 2 = 0 ∨ i / sz % 2 = 1 := Nat.mod_two_eq_zero_or_one _
    have fin : ∀ (v : Int) (t : Tok) (l : Addr) (o : Obj) (h' : Heap) (tk' : Nat) (m' : Str → Option Value), v = ledAt ns bs a00 a01 a10 a11 md sz i →
        Fr s.heap L' h' m' → News s.heap L' h' ((l, o) :: (D, W.listOf (vs'.toArray.push (.int v t)) (cnt + 1)) :: own₆) →
        (∀ z, z ≠ Str.ofString "place" → [Str.ofString "figure", Str.ofString "pair"].contains z = false → m' z = (if z = Str.ofString "led" then some (Value.ref D) else if z = Str.ofString "beside" then some (Value.bytes b₄ t₄)
          else List.lookup z [(Str.ofString "row", Value.ref row), (Str.ofString "table", Value.ref tab), (Str.ofString "size", Value.int (sz : Int) u1), (Str.ofString "modulus", Value.int md u2)].reverse)) →
        InvEndN s.heap L' (KS (fun c : List Value × List Int × Nat => [(D, W.listOf c.1.toArray c.2.2)]) (fun _ => []) (Str.ofString "place") [Str.ofString "figure", Str.ofString "pair"]
          (fun z => if z = Str.ofString "led" then some (Value.ref D) else if z = Str.ofString "beside" then some (Value.bytes b₄ t₄)
            else List.lookup z [(Str.ofString "row", Value.ref row), (Str.ofString "table", Value.ref tab), (Str.ofString "size", Value.int (sz : Int) u1), (Str.ofString "modulus", Value.int md u2)].reverse)
          (fun i c => IntsAre c.1 c.2.1 ∧ c.2.1 = (List.range i).map (ledAt ns bs a00 a01 a10 a11 md sz)) (i + 1)) own₆ [D]
          { heap := h₆, gens := s.gens, drawn := s.drawn, toks := tk₆, os := s.os } { heap := h', gens := s.gens, drawn := s.drawn, toks := tk', os := s.os } := by
      intro v t l o h' tk' m' hv F' N' hm'
      rw [List.push_toArray] at N'
      refine ks_end (s₁ := { heap := h₆, gens := s.gens, drawn := s.drawn, toks := tk₆, os := s.os }) (vs' ++ [.int v t], ns' ++ [v], cnt + 1) F' N' (fun p hp => ?_) (fun p hp => .tail _ (.tail _ hp)) rfl (fun _ hp => nomatch hp) (fun z h1 _ h3 => hm' z h1 h3) ⟨IntsAre.append hP₆.1 (.cons v t .nil), ?_⟩
      · rw [List.mem_singleton.mp hp]; exact .tail _ (.head _)
      · show ns' ++ [v] = _
        rw [hP₆.2, hv, List.range_succ, List.map_append]
        rfl
    rcases two with e | e
    · have hf0 : ((0 + (i : Int) * 1).fdiv (sz : Int)).fmod 2 = 0 := by rw [hf, e]; rfl
      (rename Fr _ _ _ _ => F₇)
      simp only [hf0] at F₇ ⊢
      k_steps
      (rename Fr _ _ _ _ => F₈); (rename News _ _ _ _ => N₈)
      refine fin _ _ _ _ _ _ _ ?_ F₈ N₈ ?_
      · unfold ledAt
        rw [if_pos e, Int.fmod_eq_emod_of_nonneg _ (by omega)]
        simp
      · intro z h1 h3
        simp only [List.contains_cons, List.contains_nil, Bool.or_false, Bool.or_eq_false_iff, beq_eq_false_iff_ne, ne_eq] at h3
        simp [h1, h3.1, h3.2, kstB]
    · have hf0 : ((0 + (i : Int) * 1).fdiv (sz : Int)).fmod 2 = 1 := by rw [hf, e]; rfl
      (rename Fr _ _ _ _ => F₇)
      simp only [hf0] at F₇ ⊢
      k_steps
      (rename Fr _ _ _ _ => F₈); (rename News _ _ _ _ => N₈)
      refine fin _ _ _ _ _ _ _ ?_ F₈ N₈ ?_
      · unfold ledAt
        rw [if_neg (by omega), Int.fmod_eq_emod_of_nonneg _ (by omega)]
        simp
      · intro z h1 h3
        simp only [List.contains_cons, List.contains_nil, Bool.or_false, Bool.or_eq_false_iff, beq_eq_false_iff_ne, ne_eq] at h3
        simp [h1, h3.1, h3.2, kstB]
  case done =>
    clear N₅ F₅ R₅ kp₅
    intro c u₆ h₆ tk₆ hP₆ F₆ N₆
    (try dsimp only)
    k_steps
    dsimp only
    refine hret D c.1 c.2.2 h₆ tk₆ (N₆ _ (.head _)).1 (N₆ _ (.head _)).2.2 ?_ F₆.keep
    have hfin : c.2.1 = ledL ns a00 a01 a10 a11 md sz := by
      rw [hP₆.2]
      exact ledL_eq fun i hi => by rw [← hbs]; exact beside_at hin hlen H8.out hsz hq z₃ z₄ g₃ g₄ hi
    rw [← hfin]
    exact hP₆.1
end
end Mine
end PartS2
-- part L2
section PartL2
open PySem PySem.W PyProof.Rows PySem.Spec PySem.Calls
set_option maxRecDepth 100000
set_option maxHeartbeats 4000000
namespace Mine
section
variable {prog : Program} {w : World} {A : Around} {s : Shared} {env : Env}
theorem codeC_forLoop {R : Flow → Shared → Prop} {target : Expr} {it : Value} {body : List Stmt} (I : Nat → Shared → Prop)
    (turn : ∀ n s, I n s → wpAny (model prog w) A (pyNext it) (fun r s₁ => match r with
      | none => R .next s₁
      | some v => wpAny (model prog w) A (assign target env v) (fun _ s₂ => wpC (model prog w) A (execs body env) (fun f s₃ => f = .next ∧ ∃ m, m < n ∧ I m s₃) s₂) (fun _ _ => False) s₁) (fun _ _ => False) s)
    (n : Nat) (h : I n s) (ht : ∀ v, letOwnedTupleGo target it v = pure () := by intro _; rfl) : codeC (model prog w) A (.forLoop target it body [] env) R s := by
  induction n using Nat.strongRecOn generalizing s with
  | ind n ih =>
    refine codeC_of_tree rfl ?_
    show wpC _ A ((forTurn target it body [] env).onRaise (fun x => do noteFrame x env; theTreesLotGoes x)) _ s
    refine wpC_onRaise ?_
    simp only [forTurn]
    refine wpC_bind (wpC_standAt (wpC_bind (wpC_onRaise (wpC_any (wpAny_mono (turn n s h) (fun r s₁ h₁ => ?_) fun _ _ x => x)))))
    cases r with
    | none =>
      refine wpC_pure ⟨rfl, codeC_of_tree rfl ?_⟩
      show wpC _ A (do return Fin.done (← (execs [] env).onRaise (fun x => do noteFrame x env; theTreesLotGoes x))) _ s₁
      exact wpC_bind (wpC_onRaise (execs_nil_C (wpC_pure h₁)))
    | some v =>
      refine wpC_bind (wpC_of_eq (ht v) ?_)
      refine wpC_bind (wpC_any (wpAny_mono h₁ (fun _ s₂ h₂ => wpC_bind (wpC_mono h₂ fun f s₃ h₃ => ?_)) fun _ _ x => x))
      obtain ⟨rfl, m, hm, hI⟩ := h₃
      exact wpC_pure ⟨rfl, ih m hm hI⟩
theorem runOwn_C {c : Code} {Q : Flow → Shared → Prop} (h : codeC (model prog w) A c Q s) : wpC (model prog w) A (runOwn c env) Q s := by
  unfold runOwn
  exact wpC_onRaise (wpC_run h)
/-- a loop over range(n) in clean mode -/
theorem For_range_C {h₀ : Heap} {x : Str} {px pos : Pos} {iter : Expr} {body : List Stmt} {n : Nat} {Q : Flow → Shared → Prop} (J : Nat → (Str → Option Value) → List (Addr × Obj) → Prop) (hh : A.handled = none)
    (hx : env.kindOf x = some .local) (hp : (env.scope.kind == .class || (env.scope.kind == .module && env.locals != env.globals)) = false)
    (hit : wpAny (model prog w) A (eval iter env) (fun xv s₁ => ∃ r t u v h tk m nx, xv = .ref r ∧ s₁ = { s with heap := h, toks := tk } ∧ IsRange h r 0 (n : Int) 1 t u v ∧ Fr h₀ env.locals h m ∧ News h₀ env.locals h nx ∧ J 0 m nx) (fun _ _ => False) s)
    (hn : n < 2 ^ 60)
    (turn : ∀ i t m₁ nx h tk (own : Addr × Obj), i < n → J i m₁ nx → Fr h₀ env.locals h (fun y => if y = x then some (.int (i : Int) t) else m₁ y) → News h₀ env.locals h nx → News h₀ env.locals h [own] → (∀ p ∈ nx, p.1 ≠ own.1) →
      wpC (model prog w) A (execs body env) (fun f s₃ => f = .next ∧ ∃ h' tk' m' nx', s₃ = { s with heap := h', toks := tk' } ∧ Fr h₀ env.locals h' m' ∧ News h₀ env.locals h' nx' ∧ News h₀ env.locals h' [own] ∧ (∀ p ∈ nx', p.1 ≠ own.1) ∧ J (i + 1) m' nx') { s with heap := h, toks := tk })
    (done : ∀ m₁ nx h tk, J n m₁ nx → Fr h₀ env.locals h m₁ → News h₀ env.locals h nx → Q .next { s with heap := h, toks := tk })
    (hs : ∀ x, foldedSetIterable iter env x = pure x := by intro _; rfl) : wpC (model prog w) A (exec (.For (.Name x px) iter body [] pos) env) Q s := by
  rw [exec_For]
  refine wpC_bind (wpC_standAt (wpC_bind (wpC_any (wpAny_mono hit (fun xv s₁ h₁ => ?_) fun _ _ x => x))))
  obtain ⟨r, t, u, v, h, tk, m, nx, rfl, rfl, hr, F, N, hJ⟩ := h₁
  refine wpC_bind (wpC_of_eq (hs _) (wpC_bind (wpC_standAt (wpC_bind (wpC_holding (wpC_any (wpAny_pyIter_range hr (small_one (by omega) (by omega) (by omega) (by omega)) ?_)))))))
  dsimp only
  have hsz : Builtin.Range.rangeSize 0 (n : Int) 1 = (n : Int) := by rw [rangeSize_one]; split <;> omega
  rw [hsz]
  have hIL : h.objs.size ≠ env.locals := Nat.ne_of_gt F.ns.lt
  have hI0 : h₀.get? h.objs.size = none := next_is_new F
  refine runOwn_C (codeC_forLoop
    (fun k s' => ∃ h' tk' m' nx' i, s' = { s with heap := h', toks := tk' } ∧ IsRangeIter h' h.objs.size (i : Nat) ((n : Int) - (i : Nat)) 1 ∧ Fr h₀ env.locals h' m' ∧ News h₀ env.locals h' nx' ∧ (∀ p ∈ nx', p.1 ≠ h.objs.size) ∧ J i m' nx' ∧ i ≤ n ∧ k = n + 1 - i) ?_ (n + 1)
    ⟨_, _, m, nx, 0, rfl, by simpa using Heap.get?_push_size _ rfl, F.push _, (fun p hp => ⟨Heap.get?_push_of_some _ (N p hp).1, (N p hp).2⟩), (fun p hp => Nat.ne_of_lt (Heap.lt_size (N p hp).1)), hJ, Nat.zero_le _, rfl⟩)
  rintro k s' ⟨h', tk', m', nx', i, rfl, hst, F', N', hne, hJ', hi, rfl⟩
  by_cases hlt : i < n
  · refine wpAny_pyNext_range_item hst (by omega) fun h₂ hst₂ hb₂ => ?_
    have F₂ : Fr h₀ env.locals h₂ m' := F'.change hb₂ hIL hI0
    have N₂ : News h₀ env.locals h₂ nx' := fun p hp => ⟨(hb₂.2 _ (hne p hp)).trans (N' p hp).1, (N' p hp).2⟩
    refine wpAny_assign_Name (wpAny_storeName_local hx F₂.ns (fun h₃ hn₃ hs₃ => ?_) hp)
    have F₃ := F₂.set hn₃ hs₃
    have hst₃ : IsRangeIter h₃ h.objs.size (((i : Nat) : Int) + 1) ((n : Int) - (i : Nat) - 1) 1 := (hs₃.2 _ hIL).trans hst₂
    have Nown : News h₀ env.locals h₃ [(h.objs.size, _)] := fun p hp => by rw [List.mem_singleton.mp hp]; exact ⟨hst₃, hIL, hI0⟩
    refine wpC_mono (turn i _ m' nx' h₃ _ (h.objs.size, _) hlt hJ' F₃ (N₂.set hs₃) Nown hne) fun f s₃ h₃' => ?_
    obtain ⟨rfl, h₄, tk₄, m₄, nx₄, rfl, F₄, N₄, No₄, hne₄, hJ₄⟩ := h₃'
    refine ⟨rfl, n + 1 - (i + 1), by omega, h₄, tk₄, m₄, nx₄, i + 1, rfl, ?_, F₄, N₄, hne₄, hJ₄, hlt, rfl⟩
    have e1 : (((i + 1 : Nat) : Nat) : Int) = ((i : Nat) : Int) + 1 := by omega
    have e2 : (n : Int) - ((i + 1 : Nat) : Int) = (n : Int) - (i : Nat) - 1 := by omega
    rw [e2, e1]
    exact (No₄ _ (.head _)).1
  · have hin : i = n := by omega
    subst hin
    refine wpAny_pyNext_range_end hh hst (by omega) fun h₂ hb₂ => ?_
    refine done m' nx' h₂ tk' hJ' ?_ fun p hp => ⟨hb₂ _ _ (hne p hp) (N' p hp).1, (N' p hp).2⟩
    exact ⟨F'.ns.at' fun o e => hb₂ _ o (Ne.symm hIL) e, fun b o e => hb₂ b o (fun q => by rw [q, hI0] at e; cases e) (F'.keep b o e), F'.above⟩
end
end Mine
end PartL2
-- part P3
section PartP3
open PySem PySem.W PyProof.Rows
namespace Mine
/-- the four coefficients of a table -/
structure Co where
  a00 : Int
  a01 : Int
  a10 : Int
  a11 : Int
def Co.Ok (c : Co) : Prop := (-1000 ≤ c.a00 ∧ c.a00 ≤ 1000) ∧ (-1000 ≤ c.a01 ∧ c.a01 ≤ 1000) ∧ (-1000 ≤ c.a10 ∧ c.a10 ≤ 1000) ∧ (-1000 ≤ c.a11 ∧ c.a11 ≤ 1000)
/-- a table as it lies in the heap -/
structure Tab where
  T : Addr
  t0 : Addr
  t1 : Addr
  k00 : Tok
  k01 : Tok
  k10 : Tok
  k11 : Tok
  co : Co
def Tab.At (h : Heap) (d : Tab) : Prop := h.IsList d.T #[.ref d.t0, .ref d.t1] ∧ h.IsList d.t0 #[.int d.co.a00 d.k00, .int d.co.a01 d.k01] ∧ h.IsList d.t1 #[.int d.co.a10 d.k10, .int d.co.a11 d.k11]
theorem Tab.At.keeps {h h' : Heap} {d : Tab} (a : d.At h) (k : ∀ b o, h.get? b = some o → h'.get? b = some o) : d.At h' :=
  ⟨a.1.at fun o e => k _ o e, a.2.1.at fun o e => k _ o e, a.2.2.at fun o e => k _ o e⟩
def ledC (md : Int) (c : Co) (sz : Nat) (ns : List Int) : List Int := ledL ns c.a00 c.a01 c.a10 c.a11 md sz
noncomputable def allL (md : Int) (cs : List Co) (ns : List Int) : Nat → List Int
  | 0 => ns
  | i + 1 => match cs[i]? with
    | some c => ledC md c (2 ^ i) (allL md cs ns i)
    | none => allL md cs ns i
theorem ledL_length (ns : List Int) (a00 a01 a10 a11 md : Int) (sz : Nat) : (ledL ns a00 a01 a10 a11 md sz).length = ns.length := by simp [ledL]
theorem allL_length (md : Int) (cs : List Co) (ns : List Int) : ∀ i, (allL md cs ns i).length = ns.length
  | 0 => rfl
  | i + 1 => by
    unfold allL
    split
    · unfold ledC
      rw [ledL_length, allL_length md cs ns i]
    · exact allL_length md cs ns i
theorem ledL_in {ns : List Int} {a00 a01 a10 a11 md : Int} {sz : Nat} (h0 : 0 < md) (h1 : md ≤ 256) : KBa.In (ledL ns a00 a01 a10 a11 md sz) := by
  intro x hx
  obtain ⟨p, _, rfl⟩ := List.mem_map.mp hx
  split
  · exact ⟨Int.emod_nonneg _ (by omega), Int.lt_of_lt_of_le (Int.emod_lt_of_pos _ h0) h1⟩
  · exact ⟨Int.emod_nonneg _ (by omega), Int.lt_of_lt_of_le (Int.emod_lt_of_pos _ h0) h1⟩
theorem allL_in {md : Int} {cs : List Co} {ns : List Int} (h0 : 0 < md) (h1 : md ≤ 256) (h : KBa.In ns) : ∀ i, KBa.In (allL md cs ns i)
  | 0 => h
  | i + 1 => by
    unfold allL
    split
    · exact ledL_in h0 h1
    · exact allL_in h0 h1 h i
theorem allL_succ {md : Int} {cs : List Co} {ns : List Int} {i : Nat} {c : Co} (h : cs[i]? = some c) : allL md cs ns (i + 1) = ledC md c (2 ^ i) (allL md cs ns i) := by
  show (match cs[i]? with | some c => ledC md c (2 ^ i) (allL md cs ns i) | none => allL md cs ns i) = _
  rw [h]
theorem pow_split {k i : Nat} (h : i < k) : 2 ^ k = 2 * 2 ^ i * 2 ^ (k - i - 1) := by
  have e : k = 1 + i + (k - i - 1) := by omega
  conv => lhs; rw [e, Nat.pow_add, Nat.pow_add]
end Mine
end PartP3
-- part S3
section PartS3
open PySem PySem.W PyProof.Rows PySem.Spec PySem.Calls
set_option maxRecDepth 100000
set_option maxHeartbeats 8000000
namespace Mine
local macro_rules | `(tactic| k_steps) => `(tactic| repeat' (first | (k_unfold; (try dsimp only)) | ((fail_if_success (with_reducible show wpAny _ _ (pyIter (Value.ref _)) _ _ _)); (first | (k_end; wrow_close) | walk1 | (dsimp only; walk1) | (leave1; walk_say "STEP leave1"; try dsimp only) | fail "no step"))))
section
variable {w : World} {p : Program} {loose : List Str} {mean : ExcName → Option Value} {mg mb : Str → Option Value}
   {dp un : Nat} {gd : Option (List Code)} {cn : Str} {cs : Scope} {a : Addr} {ccd : Value} {cl : List (Str × Addr)} {outer : List Env} {A₀ : Around} {base h₀ : Heap} {L : Addr} {m : Str → Option Value} {s : Shared}
theorem all_C {row tabs : Addr} {vs : List Value} {ns : List Int} {ds : List Tab} {md : Int} {u2 : Tok} {Q : Value → Shared → Prop}
    (X : (Mine.hd.heap_39 w.params).In h₀) (B : Below A₀ base outer h₀) (F : Fr h₀ L s.heap m) (T : Top p loose mean mg mb h₀) (hk : cs.kind = .function)
    (hrow : s.heap.IsList row vs.toArray) (hints : IntsAre vs ns) (hin : KBa.In ns) (hlen : ns.length = 2 ^ ds.length) (hds : 0 < ds.length) (hds3 : ds.length ≤ 3)
    (htabs : s.heap.IsList tabs (ds.map fun d => Value.ref d.T).toArray) (hat : ∀ d ∈ ds, d.At s.heap) (hok : ∀ d ∈ ds, d.co.Ok)
    (hmd : 0 < md) (hmd2 : md ≤ 256) (hd1 : dp + 3 < recursionLimit)
    (hret : ∀ r vs' n h' tk', h'.get? r = some (W.listOf vs'.toArray n) → s.heap.get? r = none → IntsAre vs' (allL md (ds.map (·.co)) ns ds.length) → (∀ b o, s.heap.get? b = some o → h'.get? b = some o) → Q (.ref r) { s with heap := h', toks := tk' }) :
    wpC (model PySem.Challenge.rw_ny0004_01.row.prog w) (ktrTop dp un gd cn cs L a ccd cl outer) (call (.ref 56) [.ref row, .ref tabs, .int md u2]) Q s := by
  w_top off
  revert X
  k_fill
  intro X
  refine wpC_call ?_
  k_dflt (refine' codeC_def (binds := [(Str.ofString "row", .ref row), (Str.ofString "tables", .ref tabs), (Str.ofString "modulus", .int md u2)]) B F X T ?kA ?kF ?kK ?k6 ?k7 ?k8 ?k9 ?kB ?_ ?c2 ?c3 ?c4 ?c5; (case kA => exact rfl); (case kF => exact rfl); (case kK => assumption); (case k6 => k_is); (case k7 => k_is); (case k8 => ktr_room); (case k9 => exact BindsTo.of_eq rfl); (case c5 => decide); (case kB => exact locs rfl); (case c2 => exact rfl); (case c3 => exact rfl); (case c4 => exact rfl))
  intro L' h₁ F₁ B₁ X₁ T₁
  clear F X T B
  have N₁ : News s.heap L' h₁ [] := News.nil
  (try dsimp only)
  refine execs_cons_C (For_range_C (h₀ := s.heap) (n := ds.length)
    (fun i m nx => ∃ r vs, m (Str.ofString "row") = some (.ref r) ∧ m (Str.ofString "tables") = some (.ref tabs) ∧ m (Str.ofString "modulus") = some (.int md u2) ∧
      ((i = 0 ∧ r = row) ∨ ∃ cnt, (r, W.listOf vs.toArray cnt) ∈ nx) ∧ (i = 0 → s.heap.IsList r vs.toArray) ∧ IntsAre vs (allL md (ds.map (·.co)) ns i)) rfl rfl rfl ?hit (by omega) ?turn ?done)
  case hit =>
    k_steps
    refine len_list (htabs.at fun o e => F₁.keep _ o e) (by simp; omega) ?_
    have esz : (((ds.map fun d => Value.ref d.T).toArray.size : Nat) : Int) = (ds.length : Int) := by simp
    rw [esz]
    refine spliced_nil ?_
    refine call_range_1 ?_
    refine ⟨_, _, _, _, _, _, _, [], rfl, rfl, Heap.get?_push_size _ rfl, F₁.push _, News.nil, row, vs, rfl, rfl, rfl, .inl ⟨by trivial, rfl⟩, fun _ => hrow, hints⟩
  case turn =>
    rintro i ti m₂ nx h₂ tk₂ own hi ⟨r, vs₂, e1, e2, e3, e4, e5, hI⟩ F₂ N₂ No hne
    have hr₂ : h₂.IsList r vs₂.toArray := by
      rcases e4 with ⟨rfl, rfl⟩ | ⟨cnt, hm⟩
      · exact (e5 rfl).at fun o e => F₂.keep _ o e
      · exact PySem.IsL.isList (n := cnt) (N₂ _ hm).1
    obtain ⟨d, hd⟩ : ∃ d, ds[i]? = some d := ⟨ds[i], List.getElem?_eq_getElem hi⟩
    have hdm : d ∈ ds := List.mem_of_getElem? hd
    have NN : News s.heap L' h₂ (own :: nx) := fun p hp => (List.mem_cons.mp hp).elim (fun e => e ▸ No _ (.head _)) (N₂ p)
    obtain ⟨m₃, hm₃⟩ : ∃ m₃ : Str → Option Value, m₃ = fun y => if y = Str.ofString "step" then some (Value.int (i : Int) ti) else if y = Str.ofString "row" then some (.ref r) else if y = Str.ofString "tables" then some (.ref tabs) else if y = Str.ofString "modulus" then some (.int md u2) else m₂ y := ⟨_, rfl⟩
    have em : (fun y => if y = Str.ofString "step" then some (Value.int (i : Int) ti) else m₂ y) = m₃ := by
      rw [hm₃]
      funext y
      by_cases h1 : y = Str.ofString "step"
      · simp only [if_pos h1]
      · simp only [if_neg h1]
        by_cases h2 : y = Str.ofString "row"
        · rw [if_pos h2, h2]; exact e1
        · rw [if_neg h2]
          by_cases h3 : y = Str.ofString "tables"
          · rw [if_pos h3, h3]; exact e2
          · rw [if_neg h3]
            by_cases h4 : y = Str.ofString "modulus"
            · rw [if_pos h4, h4]; exact e3
            · rw [if_neg h4]
    rw [em] at F₂
    subst hm₃
    clear em F₁ N₁
    (try dsimp only)
    refine execs_cons_C (Assign_Name_C (Call_Name_C ?_))
    k_steps
    refine CallF_C (items_cons_C (wpC_any ?_))
    k_steps
    refine items_cons_C (wpC_any ?_)
    k_steps
    refine item_litK (htabs.at fun o e => F₂.keep _ o e) (by omega) (by omega) (v := .ref d.T) (by simp [hd]) ?_
    refine items_cons_C (wpC_any ?_)
    k_steps
    refine items_cons_C (wpC_any ?_)
    k_steps
    (rename Fr _ _ _ _ => F₄)
    refine items_nil_C ⟨fn_at X₁ F₄.keep (by k_is), ?_⟩
    have hpow : (2 : Int) ^ ((i : Int)).toNat = ((2 ^ i : Nat) : Int) := by simp
    rw [hpow]
    have hdok := hok d hdm
    have hdat := (hat d hdm).keeps F₄.keep
    have hlenI : (allL md (ds.map (·.co)) ns i).length = 2 * 2 ^ i * 2 ^ (ds.length - i - 1) := by rw [allL_length, hlen, pow_split hi]
    have hlen8 : (allL md (ds.map (·.co)) ns i).length ≤ 8 := by
      rw [allL_length, hlen]
      exact Nat.le_trans (Nat.pow_le_pow_right (by decide) hds3) (by decide)
    refine led_C (sz := 2 ^ i) (q := 2 ^ (ds.length - i - 1)) X₁ B₁ F₄ T₁ rfl hr₂ hI (allL_in hmd hmd2 hin i) hlenI hlen8 (Nat.two_pow_pos i) (Nat.two_pow_pos _) hdat.1 hdat.2.1 hdat.2.2 hdok.1 hdok.2.1 hdok.2.2.1 hdok.2.2.2 hmd (by show dp + 1 + 2 < _; omega) ?_
    intro r₅ vs₅ n₅ h₅ tk₅ hg₅ hnone₅ hI₅ kp₅
    have F₅ := F₄.keptAll kp₅
    have N₅ : News s.heap L' h₅ [(r₅, W.listOf vs₅.toArray n₅)] := fun p hp => by
      rw [List.mem_singleton.mp hp]
      refine ⟨hg₅, fun e => ?_, ?_⟩
      · have hL : ∃ o, h₂.get? L' = some o := by obtain ⟨o, _, _, ho, _⟩ := F₄.ns; exact ⟨o, ho⟩
        obtain ⟨o, ho⟩ := hL
        have : h₂.get? r₅ = none := hnone₅
        rw [show r₅ = L' from e, ho] at this
        cases this
      · cases q : s.heap.get? r₅ with
        | none => rfl
        | some o =>
          have : h₂.get? r₅ = none := hnone₅
          rw [F₄.keep _ _ q] at this
          cases this
    have No₅ : News s.heap L' h₅ [own] := No.grown kp₅
    have hneq : r₅ ≠ own.1 := fun e => by
      have h1 := (No own (.head _)).1
      have h2 : h₂.get? r₅ = none := hnone₅
      rw [e, h1] at h2
      cases h2
    have NB : News s.heap L' h₅ [own, (r₅, W.listOf vs₅.toArray n₅)] := fun p hp => by
      rcases List.mem_cons.mp hp with rfl | hp
      · exact No₅ _ (.head _)
      · exact N₅ p hp
    clear F₄ NN N₂ No N₅ No₅
    (try dsimp only)
    k_steps
    (rename Fr _ _ _ _ => F₆); (rename News _ _ _ _ => N₆)
    refine execs_nil_C ⟨rfl, _, _, _, [(r₅, W.listOf vs₅.toArray n₅)], rfl, F₆, fun p hp => N₆ p (.tail _ hp), fun p hp => ?_, fun p hp => ?_, r₅, vs₅, rfl, rfl, rfl, .inr ⟨n₅, .head _⟩, (fun e => by omega), ?_⟩
    · rw [List.mem_singleton.mp hp]; exact N₆ _ (.head _)
    · rw [List.mem_singleton.mp hp]; exact hneq
    · rw [allL_succ (c := d.co) (by simp [hd])]
      exact hI₅
  case done =>
    rintro m₂ nx h₂ tk₂ ⟨r, vs₂, e1, e2, e3, e4, e5, hI⟩ F₂ N₂
    (try dsimp only)
    refine execs_cons_C (Return_C (wpC_any ?_))
    have F₃ : Fr s.heap L' h₂ (fun y => if y = Str.ofString "row" then some (.ref r) else m₂ y) := by
      have em : (fun y => if y = Str.ofString "row" then some (Value.ref r) else m₂ y) = m₂ := by
        funext y
        by_cases h2 : y = Str.ofString "row"
        · rw [if_pos h2, h2]; exact e1.symm
        · rw [if_neg h2]
      rw [em]; exact F₂
    clear F₂ F₁ N₁
    k_steps
    dsimp only
    rcases e4 with ⟨e4, _⟩ | ⟨cnt, hm⟩
    · omega
    · exact hret r vs₂ cnt h₂ tk₂ (N₂ _ hm).1 (N₂ _ hm).2.2 hI F₃.keep
end
end Mine
end PartS3
-- part P4
section PartP4
open PySem PySem.W PyProof.Rows
namespace Mine
/-- the address of the text's own or_, and_, xor -/
def opAddr : Nat → Addr
  | 0 => 35
  | 1 => 28
  | _ => 42
def opVal (k : Nat) (i j : Nat) : Nat := match k with
  | 0 => i ||| j
  | 1 => i &&& j
  | _ => i ^^^ j
noncomputable def placeN (ks : List Nat) (i j : Nat) : Nat → Nat
  | 0 => 0
  | t + 1 => placeN ks i j t + (opVal (ks.getD t 0) i j &&& 2 ^ t)
theorem opAddr_cases {k : Nat} (h : k < 3) : (k = 0 ∧ opAddr k = 35) ∨ (k = 1 ∧ opAddr k = 28) ∨ (k = 2 ∧ opAddr k = 42) := by
  rcases k with _ | _ | _ | k
  · exact .inl ⟨rfl, rfl⟩
  · exact .inr (.inl ⟨rfl, rfl⟩)
  · exact .inr (.inr ⟨rfl, rfl⟩)
  · omega
end Mine
end PartP4
-- part S4a
section PartS4a
open PySem PySem.W PyProof.Rows PySem.Spec PySem.Calls
set_option maxRecDepth 100000
set_option maxHeartbeats 8000000
namespace Mine
theorem or_nat (x y : Nat) : Builtin.bitOr (x : Int) (y : Int) = ((x ||| y : Nat) : Int) := by
  have e1 : (decide (0 ≤ Builtin.bitNot (x : Int))) = false := decide_eq_false (by unfold Builtin.bitNot; omega)
  have e2 : (decide (0 ≤ Builtin.bitNot (y : Int))) = false := decide_eq_false (by unfold Builtin.bitNot; omega)
  unfold Builtin.bitOr Builtin.bitAnd
  rw [e1, e2]
  have e3 : ∀ z : Int, Builtin.bitNot (Builtin.bitNot z) = z := fun z => by unfold Builtin.bitNot; omega
  simp only [e3, Int.toNat_natCast]
theorem and_nat (x y : Nat) : Builtin.bitAnd (x : Int) (y : Int) = ((x &&& y : Nat) : Int) := by
  have e1 : (decide (0 ≤ (x : Int))) = true := decide_eq_true (by omega)
  have e2 : (decide (0 ≤ (y : Int))) = true := decide_eq_true (by omega)
  unfold Builtin.bitAnd
  rw [e1, e2]
  simp only [Int.toNat_natCast]
theorem xor_nat {x y : Nat} (hx : x < 8) (hy : y < 8) : Builtin.bitXor (x : Int) (y : Int) = ((x ^^^ y : Nat) : Int) := by
  unfold Builtin.bitXor
  rw [or_nat, and_nat]
  have all : ∀ x ∈ List.range 8, ∀ y ∈ List.range 8, (x ||| y) = (x ^^^ y) + (x &&& y) := by decide
  have := all x (List.mem_range.mpr hx) y (List.mem_range.mpr hy)
  omega
section
variable {w : World} {p : Program} {loose : List Str} {mean : ExcName → Option Value} {mg mb : Str → Option Value}
   {dp un : Nat} {gd : Option (List Code)} {cn : Str} {cs : Scope} {a : Addr} {ccd : Value} {cl : List (Str × Addr)} {outer : List Env} {A₀ : Around} {base h₀ : Heap} {L : Addr} {m : Str → Option Value} {s : Shared}
theorem or_A {x y : Nat} {t u : Tok} {Q : Value → Shared → Prop}
    (X : (Mine.hd.heap_39 w.params).In h₀) (B : Below A₀ base outer h₀) (F : Fr h₀ L s.heap m) (T : Top p loose mean mg mb h₀) (hk : cs.kind = .function) (hd1 : dp + 1 < recursionLimit)
    (hret : ∀ t' h' tk', (∀ b o, s.heap.get? b = some o → h'.get? b = some o) → Q (.int ((x ||| y : Nat) : Int) t') { s with heap := h', toks := tk' }) :
    wpAny (model PySem.Challenge.rw_ny0004_01.row.prog w) (ktrTop dp un gd cn cs L a ccd cl outer) (call (.ref 35) [.int x t, .int y u]) Q (fun _ _ => False) s := by
  w_top off
  revert X
  k_fill
  intro X
  refine wpAny_call (codeAny_mono (R := ResOk (fun f s' => match f with | .ret v => Q v s' | _ => False)) ?_ (fun r s' hr => by cases r with | error e => exact hr | ok f => cases f <;> exact hr))
  k_dflt (refine' codeA_def (binds := [(Str.ofString "a", .int x t), (Str.ofString "b", .int y u)]) B F X T ?kA ?kF ?kK ?k6 ?k7 ?k8 ?k9 ?kB ?_ ?c2 ?c3 ?c4 ?c5; (case kA => exact rfl); (case kF => exact rfl); (case kK => assumption); (case k6 => k_is); (case k7 => k_is); (case k8 => ktr_room); (case k9 => exact BindsTo.of_eq rfl); (case c5 => decide); (case kB => exact locs rfl); (case c2 => exact rfl); (case c3 => exact rfl); (case c4 => exact rfl))
  intro L' h₁ F₁ B₁ X₁ T₁
  clear F X T B
  have N₁ : News s.heap L' h₁ [] := News.nil
  (try dsimp only)
  k_steps
  dsimp only
  rw [or_nat]
  exact hret _ _ _ F₁.keep
theorem and_A {x y : Nat} {t u : Tok} {Q : Value → Shared → Prop}
    (X : (Mine.hd.heap_39 w.params).In h₀) (B : Below A₀ base outer h₀) (F : Fr h₀ L s.heap m) (T : Top p loose mean mg mb h₀) (hk : cs.kind = .function) (hd1 : dp + 1 < recursionLimit)
    (hret : ∀ t' h' tk', (∀ b o, s.heap.get? b = some o → h'.get? b = some o) → Q (.int ((x &&& y : Nat) : Int) t') { s with heap := h', toks := tk' }) :
    wpAny (model PySem.Challenge.rw_ny0004_01.row.prog w) (ktrTop dp un gd cn cs L a ccd cl outer) (call (.ref 28) [.int x t, .int y u]) Q (fun _ _ => False) s := by
  w_top off
  revert X
  k_fill
  intro X
  refine wpAny_call (codeAny_mono (R := ResOk (fun f s' => match f with | .ret v => Q v s' | _ => False)) ?_ (fun r s' hr => by cases r with | error e => exact hr | ok f => cases f <;> exact hr))
  k_dflt (refine' codeA_def (binds := [(Str.ofString "a", .int x t), (Str.ofString "b", .int y u)]) B F X T ?kA ?kF ?kK ?k6 ?k7 ?k8 ?k9 ?kB ?_ ?c2 ?c3 ?c4 ?c5; (case kA => exact rfl); (case kF => exact rfl); (case kK => assumption); (case k6 => k_is); (case k7 => k_is); (case k8 => ktr_room); (case k9 => exact BindsTo.of_eq rfl); (case c5 => decide); (case kB => exact locs rfl); (case c2 => exact rfl); (case c3 => exact rfl); (case c4 => exact rfl))
  intro L' h₁ F₁ B₁ X₁ T₁
  clear F X T B
  have N₁ : News s.heap L' h₁ [] := News.nil
  (try dsimp only)
  k_steps
  dsimp only
  rw [and_nat]
  exact hret _ _ _ F₁.keep
theorem xor_A {x y : Nat} {t u : Tok} {Q : Value → Shared → Prop}
    (X : (Mine.hd.heap_39 w.params).In h₀) (B : Below A₀ base outer h₀) (F : Fr h₀ L s.heap m) (T : Top p loose mean mg mb h₀) (hk : cs.kind = .function) (hx8 : x < 8) (hy8 : y < 8) (hd1 : dp + 1 < recursionLimit)
    (hret : ∀ t' h' tk', (∀ b o, s.heap.get? b = some o → h'.get? b = some o) → Q (.int ((x ^^^ y : Nat) : Int) t') { s with heap := h', toks := tk' }) :
    wpAny (model PySem.Challenge.rw_ny0004_01.row.prog w) (ktrTop dp un gd cn cs L a ccd cl outer) (call (.ref 42) [.int x t, .int y u]) Q (fun _ _ => False) s := by
  w_top off
  revert X
  k_fill
  intro X
  refine wpAny_call (codeAny_mono (R := ResOk (fun f s' => match f with | .ret v => Q v s' | _ => False)) ?_ (fun r s' hr => by cases r with | error e => exact hr | ok f => cases f <;> exact hr))
  k_dflt (refine' codeA_def (binds := [(Str.ofString "a", .int x t), (Str.ofString "b", .int y u)]) B F X T ?kA ?kF ?kK ?k6 ?k7 ?k8 ?k9 ?kB ?_ ?c2 ?c3 ?c4 ?c5; (case kA => exact rfl); (case kF => exact rfl); (case kK => assumption); (case k6 => k_is); (case k7 => k_is); (case k8 => ktr_room); (case k9 => exact BindsTo.of_eq rfl); (case c5 => decide); (case kB => exact locs rfl); (case c2 => exact rfl); (case c3 => exact rfl); (case c4 => exact rfl))
  intro L' h₁ F₁ B₁ X₁ T₁
  clear F X T B
  have N₁ : News s.heap L' h₁ [] := News.nil
  (try dsimp only)
  k_steps
  dsimp only
  rw [xor_nat hx8 hy8]
  exact hret _ _ _ F₁.keep
end
end Mine
end PartS4a
-- part S4
section PartS4
open PySem PySem.W PyProof.Rows PySem.Spec PySem.Calls
set_option maxRecDepth 100000
set_option maxHeartbeats 8000000
namespace Mine
local macro_rules | `(tactic| k_steps) => `(tactic| repeat' (first | (k_unfold; (try dsimp only)) | ((fail_if_success (with_reducible show wpAny _ _ (pyIter (Value.ref _)) _ _ _)); (first | (k_end; wrow_close) | walk1 | (dsimp only; walk1) | (leave1; walk_say "STEP leave1"; try dsimp only) | fail "no step"))))
section
variable {w : World} {p : Program} {loose : List Str} {mean : ExcName → Option Value} {mg mb : Str → Option Value}
   {dp un : Nat} {gd : Option (List Code)} {cn : Str} {cs : Scope} {a : Addr} {ccd : Value} {cl : List (Str × Addr)} {outer : List Env} {A₀ : Around} {base h₀ : Heap} {L : Addr} {m : Str → Option Value} {s : Shared}
theorem place_A {signs : Addr} {ks : List Nat} {i j : Nat} {ti tj : Tok} {Q : Value → Shared → Prop}
    (X : (Mine.hd.heap_39 w.params).In h₀) (B : Below A₀ base outer h₀) (F : Fr h₀ L s.heap m) (T : Top p loose mean mg mb h₀) (hk : cs.kind = .function)
    (hl : s.heap.IsList signs (ks.map fun k => Value.ref (opAddr k)).toArray) (hks : ∀ k ∈ ks, k < 3) (hk3 : ks.length ≤ 3) (hi : i < 8) (hj : j < 8) (hd1 : dp + 3 < recursionLimit)
    (hret : ∀ t h' tk', (∀ b o, s.heap.get? b = some o → h'.get? b = some o) → Q (.int (placeN ks i j ks.length : Nat) t) { s with heap := h', toks := tk' }) :
    wpAny (model PySem.Challenge.rw_ny0004_01.row.prog w) (ktrTop dp un gd cn cs L a ccd cl outer) (call (.ref 63) [.int i ti, .int j tj, .ref signs]) Q (fun _ _ => False) s := by
  w_top off
  revert X
  k_fill
  intro X
  refine wpAny_call (codeAny_mono (R := ResOk (fun f s' => match f with | .ret v => Q v s' | _ => False)) ?_ (fun r s' hr => by cases r with | error e => exact hr | ok f => cases f <;> exact hr))
  k_dflt (refine' codeA_def (binds := [(Str.ofString "i", .int i ti), (Str.ofString "j", .int j tj), (Str.ofString "signs", .ref signs)]) B F X T ?kA ?kF ?kK ?k6 ?k7 ?k8 ?k9 ?kB ?_ ?c2 ?c3 ?c4 ?c5; (case kA => exact rfl); (case kF => exact rfl); (case kK => assumption); (case k6 => k_is); (case k7 => k_is); (case k8 => ktr_room); (case k9 => exact BindsTo.of_eq rfl); (case c5 => decide); (case kB => exact locs rfl); (case c2 => exact rfl); (case c3 => exact rfl); (case c4 => exact rfl))
  intro L' h₁ F₁ B₁ X₁ T₁
  clear F X T B
  have N₁ : News s.heap L' h₁ [] := News.nil
  (try dsimp only)
  k_steps
  (rename Fr _ _ _ _ => F₂)
  refine For_invVF F₂ rfl rfl ?_ (hE := ?hE)
  case hE => exact fun _ _ h => h.elim
  k_steps
  (rename Fr _ _ _ _ => F₂); (rename News _ _ _ _ => N₂)
  refine' list_loop (fun _ : (Int × Tok) × (Int × Tok) => []) (fun c => [(Str.ofString "place", .int c.1.1 c.1.2), (Str.ofString "size", .int c.2.1 c.2.2)]) []
    (fun t c => c.1.1 = (placeN ks i j t : Nat) ∧ c.2.1 = (2 ^ t : Nat)) ((0, _), (1, _)) rfl hl F₂ N₂ ?hk ?hP ?turn ?done
  case hk =>
    intro p hp
    rcases List.mem_cons.mp hp with rfl | hp
    · rfl
    · rw [List.mem_singleton.mp hp]; rfl
  case hP => exact ⟨rfl, rfl⟩
  case turn =>
    clear F₂ N₂
    rintro t v ⟨⟨pl, tp⟩, ⟨sz, ts⟩⟩ u₃ h₃ tk₃ own₃ ht hv off₃ ⟨hp1, hp2⟩ F₃ N₃
    dsimp only at hp1 hp2
    subst hp1 hp2
    rw [List.length_map] at ht
    have hkt : ks[t]? = some ks[t] := List.getElem?_eq_getElem ht
    rw [List.getElem?_map, hkt] at hv
    obtain rfl := (Option.some.inj hv).symm
    have hlt := hks _ (List.getElem_mem ht)
    have hgd : ks.getD t 0 = ks[t] := by simp [ht]
    obtain ⟨k, hk⟩ : ∃ k, ks[t] = k := ⟨_, rfl⟩
    rw [hk] at hlt hgd F₃
    dsimp only at F₃
    simp only [List.nil_append] at N₃
    (try dsimp only)
    have hnext : opVal k i j &&& 2 ^ t ≤ 8 ∧ placeN ks i j (t + 1) = placeN ks i j t + (opVal k i j &&& 2 ^ t) := by
      refine ⟨?_, by rw [← hgd]; rfl⟩
      exact Nat.le_trans Nat.and_le_right (Nat.le_trans (Nat.pow_le_pow_right (by decide) (show t ≤ 3 by omega)) (by decide))
    rcases opAddr_cases hlt with ⟨hk0, e⟩ | ⟨hk0, e⟩ | ⟨hk0, e⟩
    all_goals (
      rw [e] at F₃
      (try k_fold)
      k_steps
      (rename Fr _ _ _ _ => F₄); (rename News _ _ _ _ => N₄)
      first
        | refine or_A X₁ B₁ F₄ T₁ rfl (by show dp + 1 + 1 < _; omega) ?_
        | refine and_A X₁ B₁ F₄ T₁ rfl (by show dp + 1 + 1 < _; omega) ?_
        | refine xor_A X₁ B₁ F₄ T₁ rfl hi hj (by show dp + 1 + 1 < _; omega) ?_
      intro t₅ h₅ tk₅ kp₅
      have F₅ := F₄.keptAll kp₅
      have N₅ := N₄.grown kp₅
      clear F₄ N₄
      (try dsimp only)
      k_steps
      (rename Fr _ _ _ _ => F₄); (rename News _ _ _ _ => N₄)
      refine and_A X₁ B₁ F₄ T₁ rfl (by show dp + 1 + 1 < _; omega) ?_
      intro t₆ h₆ tk₆ kp₆
      have F₆ := F₄.keptAll kp₆
      have N₆ := N₄.grown kp₆
      clear F₄ N₄
      (try dsimp only)
      k_steps)
    all_goals (
      (rename Fr _ _ _ _ => F₇); (rename News _ _ _ _ => N₇)
      refine' ks_end ((_, _), (_, _)) F₇ N₇ (fun _ hp => nomatch hp) (fun p hp => hp) rfl ?hk ?hr ?hP
      case hk =>
        intro p hp
        rcases List.mem_cons.mp hp with rfl | hp
        · rfl
        · rw [List.mem_singleton.mp hp]; rfl
      case hr =>
        intro z h1 h2 _
        have hz1 := h2 _ (.head _)
        have hz2 := h2 _ (.tail _ (.head _))
        dsimp only at hz1 hz2
        simp [h1, hz1, hz2, kstB]
      case hP =>
        rw [hnext.2, hk0]
        refine ⟨?_, ?_⟩
        · dsimp only
          rw [Int.natCast_add]
          rfl
        · dsimp only
          rw [Nat.pow_succ, Int.natCast_mul, Int.mul_comm]
          rfl)
  case done =>
    clear F₂ N₂
    rintro ⟨⟨pl, tp⟩, ⟨sz, ts⟩⟩ u₃ h₃ tk₃ ⟨hp1, hp2⟩ F₃ N₃
    dsimp only at hp1 hp2
    subst hp1 hp2
    (try dsimp only)
    k_steps
    dsimp only
    rw [List.length_map]
    exact hret _ _ _ F₃.keep
end
end Mine
end PartS4
-- part P5
section PartP5
open PySem PySem.W PyProof.Rows
namespace Mine
theorem placeN_lt (ks : List Nat) (i j : Nat) : ∀ t, placeN ks i j t < 2 ^ t
  | 0 => by simp [placeN]
  | t + 1 => by
    have h := placeN_lt ks i j t
    have h2 : opVal (ks.getD t 0) i j &&& 2 ^ t ≤ 2 ^ t := Nat.and_le_right
    show placeN ks i j t + _ < _
    rw [Nat.pow_succ]
    omega
noncomputable def joinStep (fs ss : List Int) (ks : List Nat) (md : Int) (i : Nat) (ns : List Int) (j : Nat) : List Int :=
  ns.set (placeN ks i j ks.length) ((ns.getD (placeN ks i j ks.length) 0 + fs.getD i 0 * ss.getD j 0) % md)
noncomputable def joinIn (fs ss : List Int) (ks : List Nat) (md : Int) (i : Nat) (ns : List Int) : Nat → List Int
  | 0 => ns
  | j + 1 => joinStep fs ss ks md i (joinIn fs ss ks md i ns j) j
noncomputable def joinOut (fs ss : List Int) (ks : List Nat) (md : Int) (n : Nat) : Nat → List Int
  | 0 => List.replicate n 0
  | i + 1 => joinIn fs ss ks md i (joinOut fs ss ks md n i) n
theorem joinIn_length (fs ss : List Int) (ks : List Nat) (md : Int) (i : Nat) (ns : List Int) : ∀ j, (joinIn fs ss ks md i ns j).length = ns.length
  | 0 => rfl
  | j + 1 => by
    show (List.set _ _ _).length = _
    rw [List.length_set, joinIn_length fs ss ks md i ns j]
theorem joinOut_length (fs ss : List Int) (ks : List Nat) (md : Int) (n : Nat) : ∀ i, (joinOut fs ss ks md n i).length = n
  | 0 => by simp [joinOut]
  | i + 1 => by
    show (joinIn _ _ _ _ _ _ _).length = _
    rw [joinIn_length, joinOut_length fs ss ks md n i]
end Mine
end PartP5
-- part S5
section PartS5
open PySem PySem.W PyProof.Rows PySem.Spec PySem.Calls
set_option maxRecDepth 100000
set_option maxHeartbeats 8000000
namespace Mine
theorem news_head {h₀ h : Heap} {L : Addr} {q : Addr × Obj} {r : List (Addr × Obj)} (N : News h₀ L h (q :: r)) : News h₀ L h [q] := fun p hp => N p (by rw [List.mem_singleton.mp hp]; exact .head _)
theorem in_getD {ns : List Int} (h : KBa.In ns) (k : Nat) : 0 ≤ ns.getD k 0 ∧ ns.getD k 0 < 256 := by
  by_cases hk : k < ns.length
  · rw [List.getD_eq_getElem?_getD, List.getElem?_eq_getElem hk]
    exact h _ (List.getElem_mem hk)
  · rw [List.getD_eq_getElem?_getD, List.getElem?_eq_none (by omega)]
    decide
local macro_rules | `(tactic| k_steps) => `(tactic| repeat' (first | (k_unfold; (try dsimp only)) | ((fail_if_success (with_reducible show wpAny _ _ (pyIter (Value.ref _)) _ _ _)); (first | (k_end; wrow_close) | walk1 | (dsimp only; walk1) | (leave1; walk_say "STEP leave1"; try dsimp only) | fail "no step"))))
section
variable {w : World} {p : Program} {loose : List Str} {mean : ExcName → Option Value} {mg mb : Str → Option Value}
   {dp un : Nat} {gd : Option (List Code)} {cn : Str} {cs : Scope} {a : Addr} {ccd : Value} {cl : List (Str × Addr)} {outer : List Env} {A₀ : Around} {base h₀ : Heap} {L : Addr} {m : Str → Option Value} {s : Shared}
theorem joined_A {first second signs : Addr} {fv sv : List Value} {fs ss : List Int} {ks : List Nat} {md : Int} {tm : Tok} {Q : Value → Shared → Prop}
    (X : (Mine.hd.heap_39 w.params).In h₀) (B : Below A₀ base outer h₀) (F : Fr h₀ L s.heap m) (T : Top p loose mean mg mb h₀) (hk : cs.kind = .function)
    (hf : s.heap.IsList first fv.toArray) (hfi : IntsAre fv fs) (hfin : KBa.In fs) (hs : s.heap.IsList second sv.toArray) (hsi : IntsAre sv ss) (hsin : KBa.In ss)
    (hl : s.heap.IsList signs (ks.map fun k => Value.ref (opAddr k)).toArray) (hks : ∀ k ∈ ks, k < 3) (hk3 : ks.length ≤ 3) (hfl : fs.length = 2 ^ ks.length) (hsl : ss.length = 2 ^ ks.length) (hmd : 0 < md) (hmd2 : md ≤ 256) (hd1 : dp + 5 < recursionLimit)
    (hret : ∀ r vs' n h' tk', h'.get? r = some (W.listOf vs'.toArray n) → s.heap.get? r = none → IntsAre vs' (joinOut fs ss ks md (2 ^ ks.length) (2 ^ ks.length)) → (∀ b o, s.heap.get? b = some o → h'.get? b = some o) → Q (.ref r) { s with heap := h', toks := tk' }) :
    wpAny (model PySem.Challenge.rw_ny0004_01.row.prog w) (ktrTop dp un gd cn cs L a ccd cl outer) (call (.ref 70) [.ref first, .ref second, .ref signs, .int md tm]) Q (fun _ _ => False) s := by
  w_top off
  revert X
  k_fill
  intro X
  refine wpAny_call (codeAny_mono (R := ResOk (fun f s' => match f with | .ret v => Q v s' | _ => False)) ?_ (fun r s' hr => by cases r with | error e => exact hr | ok f => cases f <;> exact hr))
  k_dflt (refine' codeA_def (binds := [(Str.ofString "first", .ref first), (Str.ofString "second", .ref second), (Str.ofString "signs", .ref signs), (Str.ofString "modulus", .int md tm)]) B F X T ?kA ?kF ?kK ?k6 ?k7 ?k8 ?k9 ?kB ?_ ?c2 ?c3 ?c4 ?c5; (case kA => exact rfl); (case kF => exact rfl); (case kK => assumption); (case k6 => k_is); (case k7 => k_is); (case k8 => ktr_room); (case k9 => exact BindsTo.of_eq rfl); (case c5 => decide); (case kB => exact locs rfl); (case c2 => exact rfl); (case c3 => exact rfl); (case c4 => exact rfl))
  intro L' h₁ F₁ B₁ X₁ T₁
  clear F X T B
  have N₁ : News s.heap L' h₁ [] := News.nil
  obtain ⟨n, hn⟩ : ∃ n, 2 ^ ks.length = n := ⟨_, rfl⟩
  have hn8 : PySem.Flt.Hid (n ≤ 8) := ⟨by rw [← hn]; exact Nat.le_trans (Nat.pow_le_pow_right (by decide) hk3) (by decide)⟩
  rw [hn] at hfl hsl hret
  have hnB : n ≤ 1000 := by have := hn8.out; omega
  (try dsimp only)
  k_steps
  rename_i l _ _ D _ i1 n1 s1 e1 e2 e3 hlD _ _ _ _ _ _ _ _ R₂ F₂ N₂ kp₂
  have e0 : (List.replicate ((fs.length : Int)).toNat [(0 : Int)]).flatten = List.replicate n 0 := by rw [List.flatten_replicate_singleton, Int.toNat_natCast, hfl]
  rw [e0] at i1
  have N₂' := news_head N₂
  clear N₂ e1 e2 e3 s1 kp₂
  rw [hfl] at R₂
  refine' range_loop (fun c : List Value × List Int × Nat => [(D, W.listOf c.1.toArray c.2.2)]) (fun _ => []) [Str.ofString "j", Str.ofString "place"]
    (fun i c => IntsAre c.1 c.2.1 ∧ c.2.1 = joinOut fs ss ks md n i) (_, List.replicate n 0, 0)
    rfl R₂ ?small ?size (n := n) F₂ ?N (fun _ hp => nomatch hp) ?P0 ?turn ?done
  case small => exact small_one (by omega) (by omega) (by omega) (by omega)
  case size => rw [rangeSize_one]; split <;> omega
  case N => exact N₂'
  case P0 => exact ⟨i1, rfl⟩
  case turn =>
    clear N₂' F₂ R₂ i1
    intro i ti c u₃ h₃ tk₃ own₃ hi off₃ hP₃ F₃ N₃
    obtain ⟨vs₃, ns₃, cnt₃⟩ := c
    simp only [List.nil_append, List.cons_append] at N₃
    dsimp only at hP₃
    (try dsimp only)
    (try k_fold)
    k_steps
    rename_i R₄ F₄ N₄ kp₄
    rw [hsl] at R₄
    refine range_loop (fun c : List Value × List Int × Nat => (D, W.listOf c.1.toArray c.2.2) :: own₃) (fun _ => []) [Str.ofString "place"]
      (fun j c => IntsAre c.1 c.2.1 ∧ c.2.1 = joinIn fs ss ks md i ns₃ j) (vs₃, ns₃, cnt₃)
      rfl R₄ ?small2 ?size2 (n := n) F₄ ?N2 (fun _ hp => nomatch hp) ?P02 ?turn2 ?done2
    case small2 => exact small_one (by omega) (by omega) (by omega) (by omega)
    case size2 => rw [rangeSize_one]; split <;> omega
    case N2 => exact N₄
    case P02 => exact ⟨hP₃.1, rfl⟩
    case turn2 =>
      clear N₄ F₄ R₄ kp₄
      intro j tj c u₅ h₅ tk₅ own₅ hj off₅ hP₅ F₅ N₅
      obtain ⟨vs₅, ns₅, cnt₅⟩ := c
      simp only [List.cons_append] at N₅
      dsimp only at hP₅
      (try dsimp only)
      (try k_fold)
      k_steps
      (rename Fr _ _ _ _ => F₆); (rename News _ _ _ _ => N₆)
      have hi8 : i < 8 := Nat.lt_of_lt_of_le hi hn8.out
      have hj8 : j < 8 := Nat.lt_of_lt_of_le hj hn8.out
      have ei : (0 + (i : Int) * 1) = (i : Int) := by omega
      have ej : (0 + (j : Int) * 1) = (j : Int) := by omega
      rw [ei, ej]
      refine place_A X₁ B₁ F₆ T₁ rfl (hl.at fun o e => F₆.keep _ o e) hks hk3 hi8 hj8 (by show dp + 1 + 3 < _; omega) ?_
      intro t₇ h₇ tk₇ kp₇
      have F₇ := F₆.keptAll kp₇
      have N₇ := N₆.grown kp₇
      clear F₆ N₆
      obtain ⟨pl, hpl⟩ : ∃ pl, placeN ks i j ks.length = pl := ⟨_, rfl⟩
      have hpln : pl < n := by rw [← hpl, ← hn]; exact placeN_lt ks i j ks.length
      have hnl : ns₅.length = n := by rw [hP₅.2, joinIn_length, hP₃.2, joinOut_length]
      have hI₅ := hP₅.1
      have hfb : 0 ≤ fs.getD (0 + (i : Int) * 1).toNat 0 ∧ fs.getD (0 + (i : Int) * 1).toNat 0 < 256 := in_getD hfin _
      have hsb : 0 ≤ ss.getD (0 + (j : Int) * 1).toNat 0 ∧ ss.getD (0 + (j : Int) * 1).toNat 0 < 256 := in_getD hsin _
      rw [hpl]
      (try dsimp only)
      k_steps
      (rename Fr _ _ _ _ => F₈); (rename News _ _ _ _ => N₈)
      have hne : ∀ p ∈ own₃ ++ own₅, p.1 ≠ D := fun p hp => (List.mem_append.mp hp).elim (OwnOff.ne off₃ (List.Mem.head _) p) (OwnOff.ne off₅ (List.Mem.head _) p)
      refine ksa_set F₈ N₈ (Upd.head hne) hI₅ (by omega) (by omega) (by omega) ?_
      clear F₈ N₈
      intro h₉ F₉ N₉ hI₉ _ _
      k_steps
      have ev : (ns₅.getD ((pl : Int)).toNat 0 + fs.getD (0 + (i : Int) * 1).toNat 0 * ss.getD (0 + (j : Int) * 1).toNat 0).fmod md = (ns₅.getD pl 0 + fs.getD i 0 * ss.getD j 0) % md := by
        rw [Int.fmod_eq_emod_of_nonneg _ (by omega), ei, ej, Int.toNat_natCast, Int.toNat_natCast, Int.toNat_natCast]
      have estep : ns₅.set ((pl : Int)).toNat ((ns₅.getD ((pl : Int)).toNat 0 + fs.getD (0 + (i : Int) * 1).toNat 0 * ss.getD (0 + (j : Int) * 1).toNat 0).fmod md) = joinIn fs ss ks md i ns₃ (j + 1) := by
        rw [ev, Int.toNat_natCast]
        show _ = joinStep fs ss ks md i (joinIn fs ss ks md i ns₃ j) j
        unfold joinStep
        rw [hpl, ← hP₅.2]
      rw [estep] at hI₉
      refine ks_end (_, joinIn fs ss ks md i ns₃ (j + 1), cnt₅) F₉ N₉ ?_ ?_ rfl (fun _ hp => nomatch hp) ?_ ⟨hI₉, rfl⟩
      · intro p hp
        rcases List.mem_cons.mp hp with rfl | hp
        · exact .head _
        · exact .tail _ (List.mem_append.mpr (.inl hp))
      · exact fun p hp => .tail _ (List.mem_append.mpr (.inr hp))
      · intro z h1 _ h3
        by_cases hz : z = Str.ofString "place"
        · subst hz; simp at h3
        · simp [h1, hz, kstB]
    case done2 =>
      clear N₄ F₄ R₄ kp₄
      intro c u₅ h₅ tk₅ hP₅ F₅ N₅
      (try dsimp only)
      k_steps
      refine ks_end c F₅ N₅ (fun p hp => ?_) (fun p hp => .tail _ hp) rfl (fun _ hp => nomatch hp) ?_ ⟨hP₅.1, ?_⟩
      · rw [List.mem_singleton.mp hp]; exact .head _
      · intro z h1 _ h3
        simp only [List.contains_cons, List.contains_nil, Bool.or_false, Bool.or_eq_false_iff, beq_eq_false_iff_ne, ne_eq] at h3
        simp [h1, h3.1, h3.2, kstB]
      · rw [hP₅.2, hP₃.2]
        rfl
  case done =>
    clear N₂' F₂ R₂ i1
    intro c u₃ h₃ tk₃ hP₃ F₃ N₃
    (try dsimp only)
    k_steps
    dsimp only
    exact hret D c.1 c.2.2 h₃ tk₃ (N₃ _ (.head _)).1 (N₃ _ (.head _)).2.2 (hP₃.2 ▸ hP₃.1) F₃.keep
end
end Mine
end PartS5
-- part C6
section PartC6
open PySem PySem.W PyProof.Rows PySem.Spec PySem.Calls
set_option maxRecDepth 100000
set_option maxHeartbeats 4000000
namespace Mine
/-- what is left of a block behind a statement, kept whole -/
def Cont (M : Model) (A : Around) (env : Env) (rest : List Stmt) (Q : Flow → Shared → Prop) (f : Flow) (s : Shared) : Prop := match f with
  | .next => wpC M A (execs rest env) Q s
  | f => Q f s
theorem cont_next {M : Model} {A : Around} {env : Env} {rest : List Stmt} {Q : Flow → Shared → Prop} {s : Shared} (h : wpC M A (execs rest env) Q s) : Cont M A env rest Q .next s := h
theorem execs_any_C {M : Model} {A : Around} {env : Env} {st : Stmt} {rest : List Stmt} {Q : Flow → Shared → Prop} {s : Shared} (h : wpAny M A (exec st env) (Cont M A env rest Q) (fun _ _ => False) s) : wpC M A (execs (st :: rest) env) Q s :=
  execs_cons_C (wpC_mono (wpC_any h) fun f s' x => by cases f <;> exact x)
theorem call_cells_C {prog : Program} {w : World} {A : Around} {R : Flow → Shared → Prop} {s : Shared} {name : Str} {params : Arguments} {body : List Stmt} {scope : Scope}
    {pm cd doc : Value} {a : Addr} {o : Obj} {args : List Value} {binds : List (Str × Value)}
    (hroom : A.depth < recursionLimit) (ho : s.heap.get? a = some o) (hdata : o.data = .func (Calls.docDef name params body scope pm cd doc)) (hlim : s.heap.NoLimit) (hcd : s.heap.CodeRec cd name)
    (hbind : bindArgs (Calls.docDef name params body scope pm cd doc) ⟨args, []⟩ = pure binds)
    (hkind : ∀ x ∈ binds, scope.names.lookup x.1 = some .local ∨ (scope.names.lookup x.1 = some .cell ∧ ((cellsFrom (s.heap.objs.size + 1) scope.names []).lookup x.1).isSome = true))
    (hnd : ((cellsFrom 0 scope.names []).map (·.1)).Nodup)
    (h : ∀ h₁ tk cells, Fr s.heap s.heap.objs.size h₁ (bindL (envOfC name scope s.heap.objs.size a cd).kindOf binds fun _ => none) → News s.heap s.heap.objs.size h₁ cells →
      CellsAre (bindC (envOfC name scope s.heap.objs.size a cd).kindOf binds fun _ => none) (cellsFrom (s.heap.objs.size + 1) scope.names []) cells →
      wpC (model prog w) (A.deeper (envOfC name scope s.heap.objs.size a cd)) (execs body (envOfC name scope s.heap.objs.size a cd))
        (fun f s' => R (.ret (match f with | .ret v => v | _ => .none)) s') { s with heap := h₁, toks := tk })
    (hco : scope.isCoroutine = false := by rfl) (hgen : scope.isGenerator = false := by rfl) (hk : scope.kind = .function := by rfl) :
    codeC (model prog w) A (.call (.ref a) ⟨args, []⟩) R s := by
  refine codeC_call_function hroom ho hdata hco hgen rfl hcd ?_
  rw [hbind]
  refine wpAny_pure ?_
  refine wpAny_newFunctionEnv_cells hk hkind fun env' he s' x => ?_
  subst he
  refine ⟨hlim.keeps x.toInCall.keep, codeC_func ?_⟩
  obtain ⟨h₁, tk, rfl, _⟩ := x.done
  obtain ⟨cells, NC, Y⟩ := Cl.news (h₀ := s.heap) (Nat.le_refl _) fun n c hm => ⟨x.cell n c (lookup_of_mem_nodup (cellsFrom_names scope.names 0 (s.heap.objs.size + 1) [] [] rfl ▸ hnd) hm), x.above n c hm⟩
  exact h h₁ tk cells ⟨x.toInCall.ns, x.toInCall.keep, Nat.le_refl _⟩ NC Y
end Mine
end PartC6
-- part L3
section PartL3
open PySem PySem.W PyProof.Rows PySem.Spec PySem.Calls
set_option maxRecDepth 100000
set_option maxHeartbeats 4000000
namespace Mine
section
variable {prog : Program} {w : World} {A : Around} {E : Value → Shared → Prop} {s : Shared} {env : Env}
theorem List_new {elts : List Expr} {pos : Pos} {Q : Value → Shared → Prop}
    (h : wpAny (model prog w) A (spliced (backTo pos (starEach elts env))) (fun vs s₁ => wpAny (model prog w) A (newList vs) Q E s₁) E s) : wpAny (model prog w) A (eval (.List elts pos) env) Q E s := by
  rw [arm_eval_List]
  exact wpAny_bind (wpAny_standAt (wpAny_bind h))
theorem Neg_new {e : Expr} {pos : Pos} {Q : Value → Shared → Prop} (h : wpAny (model prog w) A (eval e env) (fun v s₁ => wpAny (model prog w) A (unaryOp .USub v) Q E s₁) E s) :
    wpAny (model prog w) A (eval (.UnaryOp .USub e pos) env) Q E s := by
  show wpAny _ _ (do let v ← eval e env; standAt pos; holding [v] (unaryOp .USub v)) _ _ _
  exact wpAny_bind (wpAny_mono h (fun v s₁ h₁ => wpAny_bind (wpAny_standAt (wpAny_holding h₁))) fun _ _ x => x)
end
end Mine
end PartL3
-- part L4
section PartL4
open PySem PySem.W PyProof.Rows PySem.Spec PySem.Calls
set_option maxRecDepth 100000
set_option maxHeartbeats 4000000
namespace Mine
def Tab.led (d : Tab) : List (Addr × Obj) := [(d.T, W.listOf #[.ref d.t0, .ref d.t1] 0), (d.t1, W.listOf #[.int d.co.a10 d.k10, .int d.co.a11 d.k11] 0), (d.t0, W.listOf #[.int d.co.a00 d.k00, .int d.co.a01 d.k01] 0)]
theorem Tab.at_of {h₀ h : Heap} {L : Addr} {news : List (Addr × Obj)} {d : Tab} (N : News h₀ L h news) (hm : ∀ p ∈ d.led, p ∈ news) : d.At h :=
  ⟨PySem.IsL.isList (N _ (hm _ (.head _))).1, PySem.IsL.isList (N _ (hm _ (.tail _ (.tail _ (.head _))))).1, PySem.IsL.isList (N _ (hm _ (.tail _ (.head _)))).1⟩
section
variable {prog : Program} {w : World} {A : Around} {E : Value → Shared → Prop} {s : Shared} {env : Env} {h₀ : Heap} {L : Addr} {m : Str → Option Value} {news : List (Addr × Obj)}
/-- an expression that gives an int and makes nothing but tokens -/
def EvI (prog : Program) (w : World) (A : Around) (E : Value → Shared → Prop) (env : Env) (h₀ : Heap) (L : Addr) (m : Str → Option Value) (e : Expr) (n : Int) : Prop :=
  ∀ (Q : Value → Shared → Prop) (s : Shared), Fr h₀ L s.heap m → (∀ t k, Q (.int n t) { s with toks := k }) → wpAny (model prog w) A (eval e env) Q E s
theorem evi_const {n : Int} {k : Nat} {pos : Pos} : EvI prog w A E env h₀ L m (.Constant (.int n) k pos) n := fun _ _ _ h => wpAny_Constant_int (h _ _)
theorem evi_neg {e : Expr} {n : Int} {pos : Pos} (i : EvI prog w A E env h₀ L m e n) : EvI prog w A E env h₀ L m (.UnaryOp .USub e pos) (-n) :=
  fun _ _ F h => Neg_new (i _ _ F fun _ _ => PyProof.Rows.neg_int (h _ _))
theorem two_new {e1 e2 : Expr} {n1 n2 : Int} {pos : Pos} {Q : Value → Shared → Prop} (F : Fr h₀ L s.heap m) (N : News h₀ L s.heap news)
    (i1 : EvI prog w A E env h₀ L m e1 n1) (i2 : EvI prog w A E env h₀ L m e2 n2)
    (h : ∀ r t1 t2 h' tk, Fr h₀ L h' m → News h₀ L h' ((r, W.listOf #[.int n1 t1, .int n2 t2] 0) :: news) → (∀ p ∈ news, p.1 < r) → Q (.ref r) { s with heap := h', toks := tk })
    (he1 : starEach (e1 :: [e2]) env = (false, eval e1 env) :: starEach [e2] env := by rfl) (he2 : starEach (e2 :: []) env = (false, eval e2 env) :: starEach [] env := by rfl) :
    wpAny (model prog w) A (eval (.List [e1, e2] pos) env) Q E s := by
  refine List_new (wpAny_items_cons (i1 _ _ F fun t1 k1 => wpAny_items_cons (i2 _ _ F fun t2 k2 => wpAny_items_nil (newList_K F N (fun r h' F' N' lt => h r t1 t2 h' _ F' N' lt) ?_)) he2) he1)
  show 2 ≤ sizeLine
  rw [sizeLine_eq]
  decide
theorem tab_new {e1 e2 e3 e4 : Expr} {c : Co} {p1 p2 pos : Pos} {Q : Value → Shared → Prop} (F : Fr h₀ L s.heap m) (N : News h₀ L s.heap news)
    (i1 : EvI prog w A E env h₀ L m e1 c.a00) (i2 : EvI prog w A E env h₀ L m e2 c.a01) (i3 : EvI prog w A E env h₀ L m e3 c.a10) (i4 : EvI prog w A E env h₀ L m e4 c.a11)
    (h : ∀ (d : Tab) h' tk, d.co = c → Fr h₀ L h' m → News h₀ L h' (d.led ++ news) → OwnOff d.led (news.map (·.1)) → Q (.ref d.T) { s with heap := h', toks := tk })
    (he1 : starEach (e1 :: [e2]) env = (false, eval e1 env) :: starEach [e2] env := by rfl) (he2 : starEach (e2 :: []) env = (false, eval e2 env) :: starEach [] env := by rfl) (he3 : starEach (e3 :: [e4]) env = (false, eval e3 env) :: starEach [e4] env := by rfl) (he4 : starEach (e4 :: []) env = (false, eval e4 env) :: starEach [] env := by rfl) :
    wpAny (model prog w) A (eval (.List [.List [e1, e2] p1, .List [e3, e4] p2] pos) env) Q E s := by
  refine List_new (wpAny_items_cons (two_new F N i1 i2 (fun r1 t1 t2 h1 k1 F1 N1 lt1 => wpAny_items_cons (two_new F1 N1 i3 i4 (fun r2 t3 t4 h2 k2 F2 N2 lt2 => wpAny_items_nil (newList_K F2 N2 (fun r h' F' N' lt => ?_) ?_)) he3 he4)) he1 he2))
  · refine h ⟨r, r1, r2, t1, t2, t3, t4, c⟩ h' _ rfl F' N' fun p hp b hb => ?_
    obtain ⟨q, hq, rfl⟩ := List.mem_map.mp hb
    have g1 := lt1 q hq
    have g2 := lt2 q (.tail _ hq)
    have g3 := lt q (.tail _ (.tail _ hq))
    simp only [Tab.led, List.mem_cons, List.not_mem_nil, or_false] at hp
    rcases hp with rfl | rfl | rfl
    · exact Nat.ne_of_gt g3
    · exact Nat.ne_of_gt g2
    · exact Nat.ne_of_gt g1
  · show 2 ≤ sizeLine
    rw [sizeLine_eq]
    decide
/-- three tables in a list -/
theorem tabs_new {x1 x2 x3 : Expr} {c1 c2 c3 : Co} {pos : Pos} {Q : Value → Shared → Prop} (F : Fr h₀ L s.heap m) (N : News h₀ L s.heap news)
    (t1 : ∀ (s : Shared) (news : List (Addr × Obj)) (Q : Value → Shared → Prop), Fr h₀ L s.heap m → News h₀ L s.heap news → (∀ (d : Tab) h' tk, d.co = c1 → Fr h₀ L h' m → News h₀ L h' (d.led ++ news) → OwnOff d.led (news.map (·.1)) → Q (.ref d.T) { s with heap := h', toks := tk }) → wpAny (model prog w) A (eval x1 env) Q E s)
    (t2 : ∀ (s : Shared) (news : List (Addr × Obj)) (Q : Value → Shared → Prop), Fr h₀ L s.heap m → News h₀ L s.heap news → (∀ (d : Tab) h' tk, d.co = c2 → Fr h₀ L h' m → News h₀ L h' (d.led ++ news) → OwnOff d.led (news.map (·.1)) → Q (.ref d.T) { s with heap := h', toks := tk }) → wpAny (model prog w) A (eval x2 env) Q E s)
    (t3 : ∀ (s : Shared) (news : List (Addr × Obj)) (Q : Value → Shared → Prop), Fr h₀ L s.heap m → News h₀ L s.heap news → (∀ (d : Tab) h' tk, d.co = c3 → Fr h₀ L h' m → News h₀ L h' (d.led ++ news) → OwnOff d.led (news.map (·.1)) → Q (.ref d.T) { s with heap := h', toks := tk }) → wpAny (model prog w) A (eval x3 env) Q E s)
    (h : ∀ O (d1 d2 d3 : Tab) h' tk rest, d1.co = c1 → d2.co = c2 → d3.co = c3 → Fr h₀ L h' m → News h₀ L h' (news ++ rest) → OwnOff rest (news.map (·.1)) → (∀ p ∈ (O, W.listOf #[.ref d1.T, .ref d2.T, .ref d3.T] 0) :: (d1.led ++ (d2.led ++ d3.led)), p ∈ rest) → Q (.ref O) { s with heap := h', toks := tk })
    (he1 : starEach (x1 :: [x2, x3]) env = (false, eval x1 env) :: starEach [x2, x3] env := by rfl) (he2 : starEach (x2 :: [x3]) env = (false, eval x2 env) :: starEach [x3] env := by rfl) (he3 : starEach (x3 :: []) env = (false, eval x3 env) :: starEach [] env := by rfl) :
    wpAny (model prog w) A (eval (.List [x1, x2, x3] pos) env) Q E s := by
  refine List_new (wpAny_items_cons (t1 _ _ _ F N fun d1 h1 k1 e1 F1 N1 o1 => wpAny_items_cons (t2 _ _ _ F1 N1 fun d2 h2 k2 e2 F2 N2 o2 => wpAny_items_cons (t3 _ _ _ F2 N2 fun d3 h3 k3 e3 F3 N3 o3 => wpAny_items_nil (newList_K F3 N3 (fun O h' F' N' lt => ?_) ?_)) he3) he2) he1)
  · refine h O d1 d2 d3 h' _ ((O, W.listOf #[.ref d1.T, .ref d2.T, .ref d3.T] 0) :: (d1.led ++ (d2.led ++ d3.led))) e1 e2 e3 F' (fun p hp => N' p ?_) (fun p hp b hb => ?_) fun p hp => hp
    · rcases List.mem_append.mp hp with hp | hp
      · exact .tail _ (List.mem_append.mpr (.inr (List.mem_append.mpr (.inr (List.mem_append.mpr (.inr hp))))))
      · rcases List.mem_cons.mp hp with rfl | hp
        · exact .head _
        · refine .tail _ ?_
          rcases List.mem_append.mp hp with hp | hp
          · exact List.mem_append.mpr (.inr (List.mem_append.mpr (.inr (List.mem_append.mpr (.inl hp)))))
          · rcases List.mem_append.mp hp with hp | hp
            · exact List.mem_append.mpr (.inr (List.mem_append.mpr (.inl hp)))
            · exact List.mem_append.mpr (.inl hp)
    · obtain ⟨q, hq, rfl⟩ := List.mem_map.mp hb
      rcases List.mem_cons.mp hp with rfl | hp
      · exact Nat.ne_of_gt (lt q (List.mem_append.mpr (.inr (List.mem_append.mpr (.inr (List.mem_append.mpr (.inr hq)))))))
      · rcases List.mem_append.mp hp with hp | hp
        · exact o1 p hp _ (List.mem_map.mpr ⟨q, hq, rfl⟩)
        · rcases List.mem_append.mp hp with hp | hp
          · exact o2 p hp _ (List.mem_map.mpr ⟨q, List.mem_append.mpr (.inr hq), rfl⟩)
          · exact o3 p hp _ (List.mem_map.mpr ⟨q, List.mem_append.mpr (.inr (List.mem_append.mpr (.inr hq))), rfl⟩)
  · show 3 ≤ sizeLine
    rw [sizeLine_eq]
    decide
theorem Assign_Name_A {M : Model} {x : Str} {pos' : Pos} {value : Expr} {pos : Pos} {Q : Flow → Shared → Prop}
    (h : wpAny M A (eval value env) (fun v s₁ => wpAny M A (storeName env x v) (fun _ => Q .next) E s₁) E s)
    (hs : swapsWith value (some (.Name x pos')) pos.line env = pure false := by rfl) : wpAny M A (exec (.Assign [.Name x pos'] value pos) env) Q E s := by
  rw [exec_Assign_Name env x pos' value pos hs]
  exact wpAny_bind (wpAny_standAt (wpAny_bind (wpAny_mono h (fun v s₁ h₁ => wpAny_bind (wpAny_standAt (wpAny_bind (wpAny_bindName (wpAny_mono h₁ (fun _ _ x => wpAny_pure x) fun _ _ x => x))))) fun _ _ x => x)))
end
end Mine
end PartL4
-- part P6
section PartP6
open PySem PySem.W PyProof.Rows
namespace Mine
/-- congruence by md -/
def Cg (md x y : Int) : Prop := ∃ c, x = y + md * c
theorem Cg.refl (md x : Int) : Cg md x x := ⟨0, by simp⟩
theorem Cg.symm {md x y : Int} (h : Cg md x y) : Cg md y x := by obtain ⟨c, rfl⟩ := h; exact ⟨-c, by grind⟩
theorem Cg.trans {md x y z : Int} (h : Cg md x y) (k : Cg md y z) : Cg md x z := by obtain ⟨c, rfl⟩ := h; obtain ⟨d, rfl⟩ := k; exact ⟨d + c, by grind⟩
theorem Cg.add {md x y u v : Int} (h : Cg md x y) (k : Cg md u v) : Cg md (x + u) (y + v) := by obtain ⟨c, rfl⟩ := h; obtain ⟨d, rfl⟩ := k; exact ⟨c + d, by grind⟩
theorem Cg.mul {md x y u v : Int} (h : Cg md x y) (k : Cg md u v) : Cg md (x * u) (y * v) := by obtain ⟨c, rfl⟩ := h; obtain ⟨d, rfl⟩ := k; exact ⟨c * v + y * d + md * c * d, by grind⟩
theorem Cg.emod (md x : Int) : Cg md (x % md) x := ⟨-(x / md), by have := Int.mul_ediv_add_emod x md; grind⟩
theorem Cg.eq {md x y : Int} (h : Cg md x y) (h1 : 0 ≤ x) (h2 : x < md) (h3 : 0 ≤ y) (h4 : y < md) : x = y := by
  obtain ⟨c, rfl⟩ := h
  have e : (y + md * c) % md = y % md := by rw [Int.add_mul_emod_self_left]
  rwa [Int.emod_eq_of_lt h1 h2, Int.emod_eq_of_lt h3 h4] at e
/-- the same without remainders, on functions -/
def ledF (c : Co) (sz : Nat) (f : Nat → Int) (p : Nat) : Int := if p / sz % 2 = 0 then c.a00 * f p + c.a01 * f (p + sz) else c.a10 * f (p - sz) + c.a11 * f p
noncomputable def allF (cs : List Co) (f : Nat → Int) : Nat → Nat → Int
  | 0 => f
  | i + 1 => match cs[i]? with
    | some c => ledF c (2 ^ i) (allF cs f i)
    | none => allF cs f i
theorem allF_succ {cs : List Co} {f : Nat → Int} {i : Nat} {c : Co} (h : cs[i]? = some c) : allF cs f (i + 1) = ledF c (2 ^ i) (allF cs f i) := by
  show (match cs[i]? with | some c => ledF c (2 ^ i) (allF cs f i) | none => allF cs f i) = _
  rw [h]
theorem allF_lin (cs : List Co) (f g : Nat → Int) (a b : Int) : ∀ i p, allF cs (fun q => a * f q + b * g q) i p = a * allF cs f i p + b * allF cs g i p
  | 0, _ => rfl
  | i + 1, p => by
    cases h : cs[i]? with
    | none =>
      have e : ∀ k, allF cs k (i + 1) = allF cs k i := fun k => by
        show (match cs[i]? with | some c => ledF c (2 ^ i) (allF cs k i) | none => allF cs k i) = _
        rw [h]
      rw [e, e, e]
      exact allF_lin cs f g a b i p
    | some c =>
      rw [allF_succ h, allF_succ h, allF_succ h]
      unfold ledF
      simp only [allF_lin cs f g a b i]
      split <;> grind
end Mine
end PartP6
-- part P7
section PartP7
open PySem PySem.W PyProof.Rows
namespace Mine
/-- sums -/
noncomputable def sumN (f : Nat → Int) : Nat → Int
  | 0 => 0
  | n + 1 => sumN f n + f n
theorem sumN_add (f : Nat → Int) (m : Nat) : ∀ n, sumN f (m + n) = sumN f m + sumN (fun x => f (x + m)) n
  | 0 => by simp [sumN]
  | n + 1 => by
    have h := sumN_add f m n
    show sumN f (m + n) + f (m + n) = _ + (_ + _)
    rw [h, Nat.add_comm m n, Int.add_assoc]
theorem sumN_congr {f g : Nat → Int} : ∀ {n : Nat}, (∀ x, x < n → f x = g x) → sumN f n = sumN g n
  | 0, _ => rfl
  | n + 1, h => by
    show sumN f n + f n = sumN g n + g n
    rw [sumN_congr fun x hx => h x (by omega), h n (by omega)]
theorem sumN_plus (f g : Nat → Int) : ∀ n, sumN (fun x => f x + g x) n = sumN f n + sumN g n
  | 0 => rfl
  | n + 1 => by
    have h := sumN_plus f g n
    show sumN (fun x => f x + g x) n + (f n + g n) = _ + f n + (_ + g n)
    rw [h]
    grind
theorem sumN_zero : ∀ n, sumN (fun _ => 0) n = 0
  | 0 => rfl
  | n + 1 => by
    show sumN (fun _ => 0) n + 0 = 0
    rw [sumN_zero n]
    rfl
/-- the figure that two figures give -/
def opBit (k a b : Nat) : Nat := match k with
  | 0 => if a = 0 ∧ b = 0 then 0 else 1
  | 1 => if a = 0 ∨ b = 0 then 0 else 1
  | _ => if a = b then 0 else 1
theorem op_low {k a b i t x y : Nat} (hk : k < 3) (ha : a < 2) (hb : b < 2) (hi : i ≤ 2) (ht : t < i) (hx : x < 2 ^ i) (hy : y < 2 ^ i) : opVal k (x + a * 2 ^ i) (y + b * 2 ^ i) &&& 2 ^ t = opVal k x y &&& 2 ^ t := by
  have all : ∀ k ∈ List.range 3, ∀ a ∈ List.range 2, ∀ b ∈ List.range 2, ∀ i ∈ List.range 3, ∀ t ∈ List.range i, ∀ x ∈ List.range (2 ^ i), ∀ y ∈ List.range (2 ^ i), opVal k (x + a * 2 ^ i) (y + b * 2 ^ i) &&& 2 ^ t = opVal k x y &&& 2 ^ t := by decide +kernel
  exact all k (List.mem_range.mpr hk) a (List.mem_range.mpr ha) b (List.mem_range.mpr hb) i (List.mem_range.mpr (by omega)) t (List.mem_range.mpr ht) x (List.mem_range.mpr hx) y (List.mem_range.mpr hy)
theorem op_top {k a b i x y : Nat} (hk : k < 3) (ha : a < 2) (hb : b < 2) (hi : i ≤ 2) (hx : x < 2 ^ i) (hy : y < 2 ^ i) : opVal k (x + a * 2 ^ i) (y + b * 2 ^ i) &&& 2 ^ i = opBit k a b * 2 ^ i := by
  have all : ∀ k ∈ List.range 3, ∀ a ∈ List.range 2, ∀ b ∈ List.range 2, ∀ i ∈ List.range 3, ∀ x ∈ List.range (2 ^ i), ∀ y ∈ List.range (2 ^ i), opVal k (x + a * 2 ^ i) (y + b * 2 ^ i) &&& 2 ^ i = opBit k a b * 2 ^ i := by decide +kernel
  exact all k (List.mem_range.mpr hk) a (List.mem_range.mpr ha) b (List.mem_range.mpr hb) i (List.mem_range.mpr (by omega)) x (List.mem_range.mpr hx) y (List.mem_range.mpr hy)
theorem getD_lt3 {ks : List Nat} (h : ∀ k ∈ ks, k < 3) (t : Nat) : ks.getD t 0 < 3 := by
  rw [List.getD_eq_getElem?_getD]
  cases e : ks[t]? with
  | none => decide
  | some k => exact h k (List.mem_of_getElem? e)
theorem place_low {ks : List Nat} {a b i x y : Nat} (hks : ∀ k ∈ ks, k < 3) (ha : a < 2) (hb : b < 2) (hi : i ≤ 2) (hx : x < 2 ^ i) (hy : y < 2 ^ i) : ∀ {t}, t ≤ i → placeN ks (x + a * 2 ^ i) (y + b * 2 ^ i) t = placeN ks x y t
  | 0, _ => rfl
  | t + 1, ht => by
    show placeN _ _ _ t + _ = placeN _ _ _ t + _
    rw [place_low hks ha hb hi hx hy (by omega : t ≤ i), op_low (getD_lt3 hks t) ha hb hi (by omega) hx hy]
theorem place_top {ks : List Nat} {a b i x y : Nat} (hks : ∀ k ∈ ks, k < 3) (ha : a < 2) (hb : b < 2) (hi : i ≤ 2) (hx : x < 2 ^ i) (hy : y < 2 ^ i) :
    placeN ks (x + a * 2 ^ i) (y + b * 2 ^ i) (i + 1) = placeN ks x y i + opBit (ks.getD i 0) a b * 2 ^ i := by
  show placeN _ _ _ i + _ = _
  rw [place_low hks ha hb hi hx hy (Nat.le_refl i), op_top (getD_lt3 hks i) ha hb hi hx hy]
/-- the joined row as a double sum -/
noncomputable def joinS (ks : List Nat) (t : Nat) (f g : Nat → Int) (m n : Nat) (q : Nat) : Int := sumN (fun x => sumN (fun y => if placeN ks x y t = q then f x * g y else 0) n) m
theorem joinS_half {ks : List Nat} {f g : Nat → Int} {i : Nat} (q : Nat) :
    joinS ks (i + 1) f g (2 ^ i + 2 ^ i) (2 ^ i + 2 ^ i) q =
      (sumN (fun x => sumN (fun y => if placeN ks (x + 0 * 2 ^ i) (y + 0 * 2 ^ i) (i + 1) = q then f x * g y else 0) (2 ^ i)) (2 ^ i) +
       sumN (fun x => sumN (fun y => if placeN ks (x + 0 * 2 ^ i) (y + 1 * 2 ^ i) (i + 1) = q then f x * g (y + 2 ^ i) else 0) (2 ^ i)) (2 ^ i)) +
      (sumN (fun x => sumN (fun y => if placeN ks (x + 1 * 2 ^ i) (y + 0 * 2 ^ i) (i + 1) = q then f (x + 2 ^ i) * g y else 0) (2 ^ i)) (2 ^ i) +
       sumN (fun x => sumN (fun y => if placeN ks (x + 1 * 2 ^ i) (y + 1 * 2 ^ i) (i + 1) = q then f (x + 2 ^ i) * g (y + 2 ^ i) else 0) (2 ^ i)) (2 ^ i)) := by
  unfold joinS
  simp only [sumN_add, sumN_plus, Nat.one_mul, Nat.zero_mul, Nat.add_zero]
/-- one quarter of the double sum -/
theorem quarter {ks : List Nat} {f g : Nat → Int} {i a b c q : Nat} (hks : ∀ k ∈ ks, k < 3) (ha : a < 2) (hb : b < 2) (hc : c < 2) (hi : i ≤ 2) (hq : q < 2 ^ i) :
    sumN (fun x => sumN (fun y => if placeN ks (x + a * 2 ^ i) (y + b * 2 ^ i) (i + 1) = q + c * 2 ^ i then f x * g y else 0) (2 ^ i)) (2 ^ i) =
      if opBit (ks.getD i 0) a b = c then joinS ks i f g (2 ^ i) (2 ^ i) q else 0 := by
  have hop : opBit (ks.getD i 0) a b < 2 := by
    unfold opBit
    split <;> split <;> decide
  by_cases e : opBit (ks.getD i 0) a b = c
  · rw [if_pos e]
    refine sumN_congr fun x hx => sumN_congr fun y hy => ?_
    rw [place_top hks ha hb hi hx hy, e]
    by_cases e2 : placeN ks x y i = q
    · rw [if_pos e2, if_pos (by rw [e2])]
    · rw [if_neg e2, if_neg (by omega)]
  · rw [if_neg e]
    refine Eq.trans (sumN_congr (g := fun _ => 0) fun x hx => ?_) (sumN_zero _)
    refine Eq.trans (sumN_congr (g := fun _ => 0) fun y hy => ?_) (sumN_zero _)
    rw [place_top hks ha hb hi hx hy]
    have hp := placeN_lt ks x y i
    refine if_neg fun h => e ?_
    generalize opBit (ks.getD i 0) a b = o at hop h
    have ho : o = 0 ∨ o = 1 := by omega
    have hc' : c = 0 ∨ c = 1 := by omega
    rcases ho with rfl | rfl <;> rcases hc' with rfl | rfl <;> omega
/-- shift and locality of a row led over -/
theorem ix_shift {k j p : Nat} (hk : k ≤ 3) (hj : j < k) (hp : p < 2 ^ k) : ((p + 2 ^ k) / 2 ^ j % 2 = p / 2 ^ j % 2) ∧ (p / 2 ^ j % 2 = 0 → p + 2 ^ j < 2 ^ k) ∧ (p / 2 ^ j % 2 ≠ 0 → p - 2 ^ j + 2 ^ k = p + 2 ^ k - 2 ^ j) := by
  have all : ∀ k ∈ List.range 4, ∀ j ∈ List.range k, ∀ p ∈ List.range (2 ^ k), ((p + 2 ^ k) / 2 ^ j % 2 = p / 2 ^ j % 2) ∧ (p / 2 ^ j % 2 = 0 → p + 2 ^ j < 2 ^ k) ∧ (p / 2 ^ j % 2 ≠ 0 → p - 2 ^ j + 2 ^ k = p + 2 ^ k - 2 ^ j) := by decide +kernel
  exact all k (List.mem_range.mpr (by omega)) j (List.mem_range.mpr hj) p (List.mem_range.mpr hp)
theorem allF_shift {cs : List Co} {f : Nat → Int} {k : Nat} (hk : k ≤ 3) : ∀ {i p}, i ≤ k → p < 2 ^ k → allF cs (fun q => f (q + 2 ^ k)) i p = allF cs f i (p + 2 ^ k)
  | 0, _, _, _ => rfl
  | i + 1, p, hi, hp => by
    have x := ix_shift (j := i) hk (by omega) hp
    unfold allF
    cases cs[i]? with
    | none => exact allF_shift hk (by omega) hp
    | some c =>
      show ledF _ _ _ _ = ledF _ _ _ _
      unfold ledF
      rw [x.1]
      by_cases e : p / 2 ^ i % 2 = 0
      · rw [if_pos e, if_pos e, allF_shift hk (by omega) hp, allF_shift hk (by omega) (x.2.1 e)]
        have : p + 2 ^ i + 2 ^ k = p + 2 ^ k + 2 ^ i := by omega
        rw [this]
      · rw [if_neg e, if_neg e, allF_shift hk (by omega) hp, allF_shift hk (by omega) (Nat.lt_of_le_of_lt (Nat.sub_le _ _) hp), x.2.2 e]
theorem allF_local {cs : List Co} {f g : Nat → Int} {k : Nat} (hk : k ≤ 3) (h : ∀ q, q < 2 ^ k → f q = g q) : ∀ {i p}, i ≤ k → p < 2 ^ k → allF cs f i p = allF cs g i p
  | 0, _, _, hp => h _ hp
  | i + 1, p, hi, hp => by
    have x := ix_shift (j := i) hk (by omega) hp
    unfold allF
    cases cs[i]? with
    | none => exact allF_local hk h (by omega) hp
    | some c =>
      show ledF _ _ _ _ = ledF _ _ _ _
      unfold ledF
      by_cases e : p / 2 ^ i % 2 = 0
      · rw [if_pos e, if_pos e, allF_local hk h (by omega) hp, allF_local hk h (by omega) (x.2.1 e)]
      · rw [if_neg e, if_neg e, allF_local hk h (by omega) hp, allF_local hk h (by omega) (Nat.lt_of_le_of_lt (Nat.sub_le _ _) hp)]
/-- the lists follow the functions, but for md -/
theorem allL_F {md : Int} {cs : List Co} {ns : List Int} {k : Nat} (hk : k ≤ 3) (hn : ns.length = 2 ^ k) : ∀ {i p}, i ≤ k → p < 2 ^ k → Cg md ((allL md cs ns i).getD p 0) (allF cs (fun q => ns.getD q 0) i p)
  | 0, _, _, _ => Cg.refl _ _
  | i + 1, p, hi, hp => by
    have x := ix_shift (j := i) hk (by omega) hp
    unfold allF allL
    cases hc : cs[i]? with
    | none => exact allL_F hk hn (by omega) hp
    | some c =>
      have hl : (allL md cs ns i).length = 2 ^ k := by rw [allL_length, hn]
      show Cg md ((ledC md c (2 ^ i) (allL md cs ns i)).getD p 0) (ledF c (2 ^ i) _ p)
      unfold ledC ledL ledF
      rw [List.getD_eq_getElem?_getD, List.getElem?_map, List.getElem?_range (by omega)]
      show Cg md (if p / 2 ^ i % 2 = 0 then _ else _) _
      by_cases e : p / 2 ^ i % 2 = 0
      · rw [if_pos e, if_pos e]
        exact (Cg.emod _ _).trans (((Cg.refl _ _).mul (allL_F hk hn (by omega) hp)).add ((Cg.refl _ _).mul (allL_F hk hn (by omega) (x.2.1 e))))
      · rw [if_neg e, if_neg e]
        exact (Cg.emod _ _).trans (((Cg.refl _ _).mul (allL_F hk hn (by omega) (Nat.lt_of_le_of_lt (Nat.sub_le _ _) hp))).add ((Cg.refl _ _).mul (allL_F hk hn (by omega) hp)))
end Mine
end PartP7
-- part P8
section PartP8
open PySem PySem.W PyProof.Rows
namespace Mine
/-- the tables' coefficients -/
def overCo : Nat → Co
  | 0 => ⟨1, 0, 1, 1⟩
  | 1 => ⟨1, 1, 0, 1⟩
  | _ => ⟨1, 1, 1, -1⟩
def backCo (hf : Int) : Nat → Co
  | 0 => ⟨1, 0, -1, 1⟩
  | 1 => ⟨1, -1, 0, 1⟩
  | _ => ⟨hf, hf, hf, -hf⟩
theorem Cg.of_eq {md x y : Int} (h : x = y) : Cg md x y := h ▸ Cg.refl _ _
theorem allF_four (cs : List Co) (f g u v : Nat → Int) (a b c d : Int) (i p : Nat) :
    allF cs (fun q => a * f q + b * g q + (c * u q + d * v q)) i p = a * allF cs f i p + b * allF cs g i p + (c * allF cs u i p + d * allF cs v i p) := by
  have e1 := allF_lin cs (fun q => a * f q + b * g q) (fun q => c * u q + d * v q) 1 1 i p
  have e2 := allF_lin cs f g a b i p
  have e3 := allF_lin cs u v c d i p
  simp only [Int.one_mul] at e1
  rw [e1, e2, e3]
theorem led_lo {c : Co} {i p : Nat} {f : Nat → Int} (hp : p < 2 ^ i) : ledF c (2 ^ i) f p = c.a00 * f p + c.a01 * f (p + 2 ^ i) := by
  unfold ledF
  rw [Nat.div_eq_of_lt hp, if_pos rfl]
theorem led_hi {c : Co} {i p : Nat} {f : Nat → Int} (hp : p < 2 ^ i) : ledF c (2 ^ i) f (p + 2 ^ i) = c.a10 * f p + c.a11 * f (p + 2 ^ i) := by
  unfold ledF
  have h : 0 < 2 ^ i := Nat.two_pow_pos i
  rw [Nat.add_div_right _ h, Nat.div_eq_of_lt hp, if_neg (by decide), Nat.add_sub_cancel]
/-- the law on functions: led over, multiplied, led back is the joined row -/
theorem join_law {md hf : Int} {ks : List Nat} (h2 : 2 * hf = md + 1) (hks : ∀ k ∈ ks, k < 3) (hlen : ks.length ≤ 3) : ∀ (i : Nat) (f g : Nat → Int) (p : Nat), i ≤ ks.length → p < 2 ^ i →
    Cg md (allF (ks.map (backCo hf)) (fun q => allF (ks.map overCo) f i q * allF (ks.map overCo) g i q) i p) (joinS ks i f g (2 ^ i) (2 ^ i) p)
  | 0, f, g, p, _, hp => by
    have e : p = 0 := by simpa using hp
    subst e
    refine Cg.of_eq ?_
    simp [allF, joinS, sumN, placeN]
  | i + 1, f, g, p, hi, hp => by
    have hi2 : i ≤ 2 := by omega
    have hi3 : i ≤ 3 := by omega
    obtain ⟨k, hk⟩ : ∃ k, ks[i]? = some k := ⟨ks[i], List.getElem?_eq_getElem (by omega)⟩
    have hk3 : k < 3 := hks k (List.mem_of_getElem? hk)
    have hgd : ks.getD i 0 = k := by rw [List.getD_eq_getElem?_getD, hk]; rfl
    have ho : (ks.map overCo)[i]? = some (overCo k) := by rw [List.getElem?_map, hk]; rfl
    have hb : (ks.map (backCo hf))[i]? = some (backCo hf k) := by rw [List.getElem?_map, hk]; rfl
    have IH := fun (f g : Nat → Int) (p : Nat) => join_law h2 hks hlen i f g p (by omega)
    -- the halves
    obtain ⟨f1, hf1⟩ : ∃ f1 : Nat → Int, (fun q => f (q + 2 ^ i)) = f1 := ⟨_, rfl⟩
    obtain ⟨g1, hg1⟩ : ∃ g1 : Nat → Int, (fun q => g (q + 2 ^ i)) = g1 := ⟨_, rfl⟩
    have sf : ∀ q, q < 2 ^ i → allF (ks.map overCo) f i (q + 2 ^ i) = allF (ks.map overCo) f1 i q := fun q hq => by rw [← hf1]; exact (allF_shift hi3 (Nat.le_refl _) hq).symm
    have sg : ∀ q, q < 2 ^ i → allF (ks.map overCo) g i (q + 2 ^ i) = allF (ks.map overCo) g1 i q := fun q hq => by rw [← hg1]; exact (allF_shift hi3 (Nat.le_refl _) hq).symm
    rw [allF_succ ho, allF_succ ho, allF_succ hb]
    generalize hP : (fun q => ledF (overCo k) (2 ^ i) (allF (ks.map overCo) f i) q * ledF (overCo k) (2 ^ i) (allF (ks.map overCo) g i) q) = P
    obtain ⟨c, hc⟩ : ∃ c, overCo k = c := ⟨_, rfl⟩
    rw [hc] at hP
    have lo : ∀ q, q < 2 ^ i → P q = (c.a00 * c.a00) * (allF (ks.map overCo) f i q * allF (ks.map overCo) g i q) + (c.a00 * c.a01) * (allF (ks.map overCo) f i q * allF (ks.map overCo) g1 i q) +
        ((c.a01 * c.a00) * (allF (ks.map overCo) f1 i q * allF (ks.map overCo) g i q) + (c.a01 * c.a01) * (allF (ks.map overCo) f1 i q * allF (ks.map overCo) g1 i q)) := fun q hq => by
      rw [← hP]
      show ledF _ _ _ _ * ledF _ _ _ _ = _
      rw [led_lo hq, led_lo hq, sf q hq, sg q hq]
      grind
    have hi' : ∀ q, q < 2 ^ i → P (q + 2 ^ i) = (c.a10 * c.a10) * (allF (ks.map overCo) f i q * allF (ks.map overCo) g i q) + (c.a10 * c.a11) * (allF (ks.map overCo) f i q * allF (ks.map overCo) g1 i q) +
        ((c.a11 * c.a10) * (allF (ks.map overCo) f1 i q * allF (ks.map overCo) g i q) + (c.a11 * c.a11) * (allF (ks.map overCo) f1 i q * allF (ks.map overCo) g1 i q)) := fun q hq => by
      rw [← hP]
      show ledF _ _ _ _ * ledF _ _ _ _ = _
      rw [led_hi hq, led_hi hq, sf q hq, sg q hq]
      grind
    have A0 : ∀ q, q < 2 ^ i → Cg md (allF (ks.map (backCo hf)) P i q) ((c.a00 * c.a00) * joinS ks i f g (2 ^ i) (2 ^ i) q + (c.a00 * c.a01) * joinS ks i f g1 (2 ^ i) (2 ^ i) q + ((c.a01 * c.a00) * joinS ks i f1 g (2 ^ i) (2 ^ i) q + (c.a01 * c.a01) * joinS ks i f1 g1 (2 ^ i) (2 ^ i) q)) := fun q hq => by
      rw [allF_local hi3 lo (Nat.le_refl _) hq, allF_four]
      exact (((Cg.refl _ _).mul (IH _ _ _ hq)).add ((Cg.refl _ _).mul (IH _ _ _ hq))).add (((Cg.refl _ _).mul (IH _ _ _ hq)).add ((Cg.refl _ _).mul (IH _ _ _ hq)))
    have A1 : ∀ q, q < 2 ^ i → Cg md (allF (ks.map (backCo hf)) P i (q + 2 ^ i)) ((c.a10 * c.a10) * joinS ks i f g (2 ^ i) (2 ^ i) q + (c.a10 * c.a11) * joinS ks i f g1 (2 ^ i) (2 ^ i) q + ((c.a11 * c.a10) * joinS ks i f1 g (2 ^ i) (2 ^ i) q + (c.a11 * c.a11) * joinS ks i f1 g1 (2 ^ i) (2 ^ i) q)) := fun q hq => by
      rw [← allF_shift hi3 (Nat.le_refl _) hq, allF_local hi3 hi' (Nat.le_refl _) hq, allF_four]
      exact (((Cg.refl _ _).mul (IH _ _ _ hq)).add ((Cg.refl _ _).mul (IH _ _ _ hq))).add (((Cg.refl _ _).mul (IH _ _ _ hq)).add ((Cg.refl _ _).mul (IH _ _ _ hq)))
    have epow : 2 ^ (i + 1) = 2 ^ i + 2 ^ i := by rw [Nat.pow_succ]; omega
    rw [epow] at hp ⊢
    have dq : p < 2 ^ i ∨ ∃ q, q < 2 ^ i ∧ p = q + 2 ^ i := by
      by_cases h : p < 2 ^ i
      · exact .inl h
      · exact .inr ⟨p - 2 ^ i, by omega, by omega⟩
    rcases dq with hq | ⟨q, hq, rfl⟩
    · rw [led_lo hq, joinS_half]
      have Q := fun (f g : Nat → Int) (a b : Nat) (ha : a < 2) (hb : b < 2) => quarter (f := f) (g := g) (c := 0) hks ha hb (by decide) hi2 hq
      have Q00 := Q f g 0 0 (by decide) (by decide)
      have Q01 := Q f g1 0 1 (by decide) (by decide)
      have Q10 := Q f1 g 1 0 (by decide) (by decide)
      have Q11 := Q f1 g1 1 1 (by decide) (by decide)
      have z : p + 0 * 2 ^ i = p := by omega
      rw [z, hgd] at Q00 Q01 Q10 Q11
      rw [← hg1] at Q01 Q11
      rw [← hf1] at Q10 Q11
      rw [Q00, Q01, Q10, Q11]
      rw [hf1, hg1]
      obtain ⟨x, hx⟩ := A0 p hq
      obtain ⟨y, hy⟩ := A1 p hq
      rw [hx, hy]
      generalize joinS ks i f g (2 ^ i) (2 ^ i) p = j00
      generalize joinS ks i f g1 (2 ^ i) (2 ^ i) p = j01
      generalize joinS ks i f1 g (2 ^ i) (2 ^ i) p = j10
      generalize joinS ks i f1 g1 (2 ^ i) (2 ^ i) p = j11
      have hk' : k = 0 ∨ k = 1 ∨ k = 2 := by omega
      rcases hk' with rfl | rfl | rfl
      · subst hc
        simp [overCo, backCo, opBit]
        exact ⟨x, by grind⟩
      · subst hc
        simp [overCo, backCo, opBit]
        exact ⟨x - y, by grind⟩
      · subst hc
        simp [overCo, backCo, opBit]
        exact ⟨hf * (x + y) + j00 + j11, by grind⟩
    · rw [led_hi hq, joinS_half]
      have Q := fun (f g : Nat → Int) (a b : Nat) (ha : a < 2) (hb : b < 2) => quarter (f := f) (g := g) (c := 1) hks ha hb (by decide) hi2 hq
      have Q00 := Q f g 0 0 (by decide) (by decide)
      have Q01 := Q f g1 0 1 (by decide) (by decide)
      have Q10 := Q f1 g 1 0 (by decide) (by decide)
      have Q11 := Q f1 g1 1 1 (by decide) (by decide)
      have z : q + 1 * 2 ^ i = q + 2 ^ i := by omega
      rw [z, hgd] at Q00 Q01 Q10 Q11
      rw [← hg1] at Q01 Q11
      rw [← hf1] at Q10 Q11
      rw [Q00, Q01, Q10, Q11]
      rw [hf1, hg1]
      obtain ⟨x, hx⟩ := A0 q hq
      obtain ⟨y, hy⟩ := A1 q hq
      rw [hx, hy]
      generalize joinS ks i f g (2 ^ i) (2 ^ i) q = j00
      generalize joinS ks i f g1 (2 ^ i) (2 ^ i) q = j01
      generalize joinS ks i f1 g (2 ^ i) (2 ^ i) q = j10
      generalize joinS ks i f1 g1 (2 ^ i) (2 ^ i) q = j11
      have hk' : k = 0 ∨ k = 1 ∨ k = 2 := by omega
      rcases hk' with rfl | rfl | rfl
      · subst hc
        simp [overCo, backCo, opBit]
        exact ⟨y - x, by grind⟩
      · subst hc
        simp [overCo, backCo, opBit]
        exact ⟨y, by grind⟩
      · subst hc
        simp [overCo, backCo, opBit]
        exact ⟨hf * (x - y) + j01 + j10, by grind⟩
end Mine
end PartP8
-- part P9
section PartP9
open PySem PySem.W PyProof.Rows
namespace Mine
theorem set_getD {ns : List Int} {p q : Nat} {v : Int} (hp : p < ns.length) : (ns.set p v).getD q 0 = if p = q then v else ns.getD q 0 := by
  rw [List.getD_eq_getElem?_getD, List.getElem?_set, List.getD_eq_getElem?_getD]
  by_cases e : p = q
  · subst e
    simp [hp]
  · simp [e]
theorem joinIn_F {fs ss : List Int} {ks : List Nat} {md : Int} {i : Nat} {ns : List Int} (hn : ns.length = 2 ^ ks.length) (q : Nat) : ∀ j,
    Cg md ((joinIn fs ss ks md i ns j).getD q 0) (ns.getD q 0 + sumN (fun y => if placeN ks i y ks.length = q then fs.getD i 0 * ss.getD y 0 else 0) j)
  | 0 => Cg.of_eq (by simp [joinIn, sumN])
  | j + 1 => by
    have IH := joinIn_F (fs := fs) (ss := ss) (md := md) (i := i) hn q j
    have hl := joinIn_length fs ss ks md i ns j
    have hp := placeN_lt ks i j ks.length
    show Cg md ((List.set _ _ _).getD q 0) (_ + (_ + if _ then _ else _))
    rw [set_getD (by omega)]
    by_cases e : placeN ks i j ks.length = q
    · rw [if_pos e, if_pos e, e]
      refine (Cg.emod _ _).trans ?_
      rw [← Int.add_assoc]
      exact IH.add (Cg.refl _ _)
    · rw [if_neg e, if_neg e, Int.add_zero]
      exact IH
theorem joinOut_F {fs ss : List Int} {ks : List Nat} {md : Int} (q : Nat) : ∀ i,
    Cg md ((joinOut fs ss ks md (2 ^ ks.length) i).getD q 0) (joinS ks ks.length (fun x => fs.getD x 0) (fun y => ss.getD y 0) i (2 ^ ks.length) q)
  | 0 => Cg.of_eq (by
      show (List.replicate _ (0 : Int)).getD q 0 = 0
      rw [List.getD_eq_getElem?_getD, List.getElem?_replicate]
      split <;> rfl)
  | i + 1 => (joinIn_F (joinOut_length fs ss ks md _ i) q _).trans ((joinOut_F q i).add (Cg.refl _ _))
/-- every entry of a list lies below md -/
def Sm (md : Int) (ns : List Int) : Prop := ∀ x ∈ ns, 0 ≤ x ∧ x < md
theorem Sm.set {md : Int} {ns : List Int} (h : Sm md ns) {p : Nat} {v : Int} (hv : 0 ≤ v ∧ v < md) : Sm md (ns.set p v) := fun x hx => by
  rcases List.mem_or_eq_of_mem_set hx with h' | rfl
  · exact h x h'
  · exact hv
theorem mod_sm {md : Int} (h : 0 < md) (x : Int) : 0 ≤ x % md ∧ x % md < md := ⟨Int.emod_nonneg _ (by omega), Int.emod_lt_of_pos _ h⟩
theorem joinIn_sm {fs ss : List Int} {ks : List Nat} {md : Int} {i : Nat} {ns : List Int} (h0 : 0 < md) (h : Sm md ns) : ∀ j, Sm md (joinIn fs ss ks md i ns j)
  | 0 => h
  | j + 1 => (joinIn_sm h0 h j).set (mod_sm h0 _)
theorem joinOut_sm {fs ss : List Int} {ks : List Nat} {md : Int} {n : Nat} (h0 : 0 < md) : ∀ i, Sm md (joinOut fs ss ks md n i)
  | 0 => fun x hx => by
    have e := List.eq_of_mem_replicate hx
    omega
  | i + 1 => joinIn_sm h0 (joinOut_sm h0 i) n
theorem ledL_sm {ns : List Int} {a00 a01 a10 a11 md : Int} {sz : Nat} (h0 : 0 < md) : Sm md (ledL ns a00 a01 a10 a11 md sz) := by
  intro x hx
  obtain ⟨p, _, rfl⟩ := List.mem_map.mp hx
  split
  · exact mod_sm h0 _
  · exact mod_sm h0 _
theorem allL_sm {md : Int} {cs : List Co} {ns : List Int} (h0 : 0 < md) {k : Nat} (hk : 0 < k) (hc : k ≤ cs.length) : Sm md (allL md cs ns k) := by
  obtain ⟨i, rfl⟩ : ∃ i, k = i + 1 := ⟨k - 1, by omega⟩
  rw [allL_succ (List.getElem?_eq_getElem (by omega : i < cs.length))]
  exact ledL_sm h0
theorem Sm.getD {md : Int} {ns : List Int} (h : Sm md ns) (h0 : 0 < md) (q : Nat) : 0 ≤ ns.getD q 0 ∧ ns.getD q 0 < md := by
  rw [List.getD_eq_getElem?_getD]
  cases e : ns[q]? with
  | none => exact ⟨Int.le_refl _, h0⟩
  | some x => exact h x (List.mem_of_getElem? e)
theorem allF_cg {md : Int} {cs : List Co} {f g : Nat → Int} {k : Nat} (hk : k ≤ 3) (h : ∀ q, q < 2 ^ k → Cg md (f q) (g q)) : ∀ {i p}, i ≤ k → p < 2 ^ k → Cg md (allF cs f i p) (allF cs g i p)
  | 0, _, _, hp => h _ hp
  | i + 1, p, hi, hp => by
    have x := ix_shift (j := i) hk (by omega) hp
    unfold allF
    cases cs[i]? with
    | none => exact allF_cg hk h (by omega) hp
    | some c =>
      show Cg md (ledF _ _ _ _) (ledF _ _ _ _)
      unfold ledF
      by_cases e : p / 2 ^ i % 2 = 0
      · rw [if_pos e, if_pos e]
        exact ((Cg.refl _ _).mul (allF_cg hk h (by omega) hp)).add ((Cg.refl _ _).mul (allF_cg hk h (by omega) (x.2.1 e)))
      · rw [if_neg e, if_neg e]
        exact ((Cg.refl _ _).mul (allF_cg hk h (by omega) (Nat.lt_of_le_of_lt (Nat.sub_le _ _) hp))).add ((Cg.refl _ _).mul (allF_cg hk h (by omega) hp))
theorem zip_getD {md : Int} {us vs : List Int} {n q : Nat} (hu : us.length = n) (hv : vs.length = n) (hq : q < n) : (List.zipWith (fun a b => a * b % md) us vs).getD q 0 = us.getD q 0 * vs.getD q 0 % md := by
  rw [List.getD_eq_getElem?_getD, List.getElem?_eq_getElem (by simp; omega), List.getD_eq_getElem?_getD, List.getD_eq_getElem?_getD, List.getElem?_eq_getElem (by omega : q < us.length), List.getElem?_eq_getElem (by omega : q < vs.length)]
  simp
/-- the plain law -/
theorem law_plain {md hf : Int} {ks : List Nat} {fs ss : List Int} (h0 : 0 < md) (h2 : 2 * hf = md + 1) (hks : ∀ k ∈ ks, k < 3) (hk0 : 0 < ks.length) (hk3 : ks.length ≤ 3)
    (hf1 : fs.length = 2 ^ ks.length) (hs1 : ss.length = 2 ^ ks.length) :
    allL md (ks.map (backCo hf)) (List.zipWith (fun a b => a * b % md) (allL md (ks.map overCo) fs ks.length) (allL md (ks.map overCo) ss ks.length)) ks.length = joinOut fs ss ks md (2 ^ ks.length) (2 ^ ks.length) := by
  have lz : (List.zipWith (fun a b => a * b % md) (allL md (ks.map overCo) fs ks.length) (allL md (ks.map overCo) ss ks.length)).length = 2 ^ ks.length := by
    rw [List.length_zipWith, allL_length, allL_length, hf1, hs1, Nat.min_self]
  have l1 : (allL md (ks.map (backCo hf)) (List.zipWith (fun a b => a * b % md) (allL md (ks.map overCo) fs ks.length) (allL md (ks.map overCo) ss ks.length)) ks.length).length = 2 ^ ks.length := by
    rw [allL_length, lz]
  have l2 := joinOut_length fs ss ks md (2 ^ ks.length) (2 ^ ks.length)
  refine List.ext_getElem (by rw [l1, l2]) fun p hp hp' => ?_
  have hp2 : p < 2 ^ ks.length := by omega
  have key : Cg md ((allL md (ks.map (backCo hf)) (List.zipWith (fun a b => a * b % md) (allL md (ks.map overCo) fs ks.length) (allL md (ks.map overCo) ss ks.length)) ks.length).getD p 0) ((joinOut fs ss ks md (2 ^ ks.length) (2 ^ ks.length)).getD p 0) := by
    refine (allL_F hk3 lz (Nat.le_refl _) hp2).trans (Cg.trans ?_ (joinOut_F p _).symm)
    refine Cg.trans (allF_cg (g := fun q => allF (ks.map overCo) (fun x => fs.getD x 0) ks.length q * allF (ks.map overCo) (fun x => ss.getD x 0) ks.length q) hk3 (fun q hq => ?_) (Nat.le_refl _) hp2) (join_law h2 hks hk3 _ _ _ _ (Nat.le_refl _) hp2)
    rw [zip_getD (by rw [allL_length, hf1]) (by rw [allL_length, hs1]) hq]
    exact (Cg.emod _ _).trans ((allL_F hk3 hf1 (Nat.le_refl _) hq).mul (allL_F hk3 hs1 (Nat.le_refl _) hq))
  have s1 := (allL_sm (cs := ks.map (backCo hf)) (ns := List.zipWith (fun a b => a * b % md) (allL md (ks.map overCo) fs ks.length) (allL md (ks.map overCo) ss ks.length)) h0 hk0 (by simp)).getD h0 p
  have s2 := (joinOut_sm (fs := fs) (ss := ss) (ks := ks) (n := 2 ^ ks.length) h0 (2 ^ ks.length)).getD h0 p
  have e := key.eq s1.1 s1.2 s2.1 s2.2
  rw [List.getD_eq_getElem?_getD, List.getD_eq_getElem?_getD, List.getElem?_eq_getElem hp, List.getElem?_eq_getElem hp'] at e
  exact e
end Mine
end PartP9
-- part L5
section PartL5
open PySem PySem.W PyProof.Rows PySem.Spec PySem.Calls
set_option maxRecDepth 100000
set_option maxHeartbeats 4000000
namespace Mine
theorem news_plain {h₀ h : Heap} {L D : Addr} {ys : Array Value} {news : List (Addr × Obj)} (hp : h.PlainList D ys) (hL : D ≠ L) (h0 : h₀.get? D = none) (N : News h₀ L h news) : ∃ n, News h₀ L h ((D, W.listOf ys n) :: news) := by
  obtain ⟨n, e⟩ := hp
  refine ⟨n, fun p hp => ?_⟩
  rcases List.mem_cons.mp hp with rfl | hp
  · exact ⟨e, hL, h0⟩
  · exact N p hp
section
variable {prog : Program} {w : World} {A : Around} {E : Value → Shared → Prop} {s : Shared} {env : Env} {h₀ : Heap} {m : Str → Option Value} {news : List (Addr × Obj)}
/-- what an element of a block does -/
def EltOk (prog : Program) (w : World) (A : Around) (env : Env) (h₀ : Heap) (m : Str → Option Value) (news : List (Addr × Obj)) (scope : Scope) (cl : List (Str × Addr)) (x : Str) (elt : Expr) (V : Value → Prop) (Fe : Value → Value → Prop) : Prop :=
  ∀ (C : Addr) (v : Value) (s₃ : Shared) (m₃ : Str → Option Value) (E' : Value → Shared → Prop), V v → s₃.heap.Ns C m₃ → m₃ x = some v → Fr h₀ env.locals s₃.heap m → News h₀ env.locals s₃.heap news →
    wpAny (model prog w) A (eval elt (compEnvC scope cl C env)) (fun y s₄ => Fe v y ∧ Keeps s₃ s₄) E' s₃
theorem elt_quiet {scope : Scope} {cl : List (Str × Addr)} {x : Str} {elt : Expr} {V : Value → Prop} {Fe : Value → Value → Prop} {P : Nat → Value → Prop} {s₁ : Shared} {o : Obj}
    (F : Fr h₀ env.locals s₁.heap m) (N : News h₀ env.locals s₁.heap news) (hV : ∀ i v, P i v → V v) (he : EltOk prog w A env h₀ m news scope cl x elt V Fe) :
    QuietOnC prog w A env scope cl x [] elt [s₁.heap.objs.size] P (fun _ => true) Fe { s₁ with heap := s₁.heap.push o } where
  tests := fun C i v s₃ m₃ E' _ _ _ _ _ _ => wpAny_tests_nil ⟨rfl, s₃.heap, s₃.toks, rfl, fun _ _ e => e⟩
  elt := fun C i v s₃ m₃ E' _ hv _ hn hm hk _ => by
    have kp : ∀ b o, s₁.heap.get? b = some o → s₃.heap.get? b = some o := fun b o' e => hk b o' (fun q => absurd (Heap.lt_size e) (by rw [List.mem_singleton.mp q]; exact Nat.lt_irrefl _)) (Heap.get?_push_of_some _ e)
    exact he C v s₃ m₃ E' (hV i v hv) hn hm (F.keptAll kp) (N.grown kp)
theorem end_news {s₁ : Shared} {o : Obj} {h' : Heap} {D : Addr} {ys : Array Value} (F : Fr h₀ env.locals s₁.heap m) (N : News h₀ env.locals s₁.heap news) (hD : (s₁.heap.push o).get? D = none) (hp : h'.PlainList D ys)
    (hk : ∀ b o', b ≠ env.locals → b ∉ [s₁.heap.objs.size] → (s₁.heap.push o).get? b = some o' → h'.get? b = some o') : ∃ n, News h₀ env.locals h' ((D, W.listOf ys n) :: news) := by
  have old : ∀ b o', s₁.heap.get? b = some o' → b ∉ [s₁.heap.objs.size] := fun b o' e q => absurd (Heap.lt_size e) (by rw [List.mem_singleton.mp q]; exact Nat.lt_irrefl _)
  have hD₁ : s₁.heap.get? D = none := by
    cases q : s₁.heap.get? D with
    | none => rfl
    | some o' => rw [Heap.get?_push_of_some _ q] at hD; cases hD
  refine news_plain hp ?_ ?_ fun p hp' => ⟨hk _ _ (N p hp').2.1 (old _ _ (N p hp').1) (Heap.get?_push_of_some _ (N p hp').1), (N p hp').2⟩
  · rintro rfl
    obtain ⟨o', _, _, ho, _⟩ := F.ns
    rw [ho] at hD₁
    cases hD₁
  · cases q : h₀.get? D with
    | none => rfl
    | some o' => rw [F.keep _ _ q] at hD₁; cases hD₁
theorem end_fr {s₁ : Shared} {o : Obj} {h' : Heap} {m' : Str → Option Value} (F : Fr h₀ env.locals s₁.heap m) (hn : h'.Ns env.locals m')
    (hk : ∀ b o', b ≠ env.locals → b ∉ [s₁.heap.objs.size] → (s₁.heap.push o).get? b = some o' → h'.get? b = some o') : Fr h₀ env.locals h' m' :=
  ⟨hn, fun b o' e => hk b o' (fun q => by have := Heap.lt_size e; rw [q] at this; exact absurd (Nat.lt_of_lt_of_le this F.above) (Nat.lt_irrefl _)) (fun q => absurd (Heap.lt_size (F.keep b o' e)) (by rw [List.mem_singleton.mp q]; exact Nat.lt_irrefl _)) (Heap.get?_push_of_some _ (F.keep b o' e)), F.above⟩
theorem filter_true {α : Type} (l : List α) : l.filter (fun _ => true) = l := by simp
/-- y = [elt for x in iter], iter a list -/
theorem compA_list {elt iter : Expr} {x y : Str} {px py : Pos} {scope : Scope} {cl : List (Str × Addr)} {pos spos : Pos} {Q : Flow → Shared → Prop} (Fe : Value → Value → Prop) {its : List Value}
    (hh : A.handled = none)
    (h : wpAny (model prog w) A (eval iter env) (fun xv s₁ => ∃ ax news₁ h tk, xv = .ref ax ∧ s₁ = { s with heap := h, toks := tk } ∧ Fr h₀ env.locals h m ∧ News h₀ env.locals h news₁ ∧ h.IsList ax its.toArray ∧
      EltOk prog w A env h₀ m news₁ scope cl x elt (fun v => v ∈ its) Fe ∧
      ∀ D h' tk n ys, Fr h₀ env.locals h' (fun z => if z = y then some (.ref D) else m z) → News h₀ env.locals h' ((D, W.listOf ys.toArray n) :: news₁) → Paired Fe its ys → Q .next { s with heap := h', toks := tk }) E s)
    (hsz : its.length ≤ sizeLine)
    (hsw : swapsWith (.ListComp elt [⟨.Name x px, iter, [], 0⟩] scope pos) (some (.Name y py)) spos.line env = pure true)
    (hclos : closureFor scope env = pure cl) (hcell : ∀ z ∈ scope.names, z.2 ≠ .cell) (hkind : scope.kind = .function)
    (hnames : ∀ z ∈ scope.names, z.2 = .local → scope.names.lookup z.1 = some .local) (hx : scope.names.lookup x = some .local)
    (hy : env.kindOf y = some .local) (hp : (env.scope.kind == .class || (env.scope.kind == .module && env.locals != env.globals)) = false)
    (hs : ∀ x, foldedSetIterable iter env x = pure x) :
    wpAny (model prog w) A (exec (.Assign [.Name y py] (.ListComp elt [⟨.Name x px, iter, [], 0⟩] scope pos) spos) env) Q E s := by
  refine wpAny_Assign_ListComp_free (fun _ => true) Fe hsw hclos hcell hkind hnames hx hy hp (wpAny_mono h (fun xv s₁ h₁ => ?_) fun _ _ e => e) hs
  obtain ⟨ax, news₁, hp₁, tk₁, rfl, rfl, F, N, hl, he, hQ⟩ := h₁
  have hlt : ax < hp₁.objs.size := by obtain ⟨_, e, _⟩ := hl; exact Heap.lt_size e
  refine wpAny_pyIter_list hl ?_
  refine ⟨_, _, _, _, _, _, m, rfl, Walks.list hh hp₁.objs.size ax (Nat.ne_of_lt hlt) its.toArray, by simpa using hsz, ⟨⟨_, Heap.get?_push_size _ rfl, rfl, rfl⟩, hl.push _⟩, fun b hb => ?_, fun q => absurd F.ns.lt (by rw [List.mem_singleton.mp q]; exact Nat.lt_irrefl _), F.ns.push _,
    elt_quiet (s₁ := { s with heap := hp₁, toks := tk₁ }) F N (fun i v hv => List.mem_of_getElem? (i := i) (by simpa using hv)) he, ?_⟩
  · show b < (hp₁.push _).objs.size
    rw [Heap.size_push]
    rcases List.mem_cons.mp hb with rfl | hb
    · exact Nat.lt_succ_self _
    · rw [List.mem_singleton.mp hb]; exact Nat.lt_succ_of_lt hlt
  · intro D h' tk ys vs hD hlD hpl hlen hP hF hn hk
    have ev : vs = its := by simpa using walked_is hlen hP
    rw [filter_true, ev] at hF
    obtain ⟨n, N'⟩ := end_news (s₁ := { s with heap := hp₁, toks := tk₁ }) F N hD hpl hk
    exact hQ D h' tk n ys.toList (end_fr (s₁ := { s with heap := hp₁, toks := tk₁ }) F hn hk) (by simpa using N') hF
/-- [elt for x in iter] as an expression, iter a list -/
theorem compE_list {elt iter : Expr} {x : Str} {px : Pos} {scope : Scope} {cl : List (Str × Addr)} {pos : Pos} {Q : Value → Shared → Prop} (Fe : Value → Value → Prop) {its : List Value}
    (hh : A.handled = none)
    (h : wpAny (model prog w) A (eval iter env) (fun xv s₁ => ∃ ax news₁ h tk, xv = .ref ax ∧ s₁ = { s with heap := h, toks := tk } ∧ Fr h₀ env.locals h m ∧ News h₀ env.locals h news₁ ∧ h.IsList ax its.toArray ∧
      EltOk prog w A env h₀ m news₁ scope cl x elt (fun v => v ∈ its) Fe ∧
      ∀ D h' tk n ys, Fr h₀ env.locals h' m → News h₀ env.locals h' ((D, W.listOf ys.toArray n) :: news₁) → Paired Fe its ys → Q (.ref D) { s with heap := h', toks := tk }) E s)
    (hsz : its.length ≤ sizeLine)
    (hclos : closureFor scope env = pure cl) (hcell : ∀ z ∈ scope.names, z.2 ≠ .cell) (hkind : scope.kind = .function)
    (hnames : ∀ z ∈ scope.names, z.2 = .local → scope.names.lookup z.1 = some .local) (hx : scope.names.lookup x = some .local)
    (hs : ∀ x, foldedSetIterable iter env x = pure x) :
    wpAny (model prog w) A (eval (.ListComp elt [⟨.Name x px, iter, [], 0⟩] scope pos) env) Q E s := by
  refine wpAny_ListComp_free (fun _ => true) Fe hclos hcell hkind hnames hx (wpAny_mono h (fun xv s₁ h₁ => ?_) fun _ _ e => e) hs
  obtain ⟨ax, news₁, hp₁, tk₁, rfl, rfl, F, N, hl, he, hQ⟩ := h₁
  have hlt : ax < hp₁.objs.size := by obtain ⟨_, e, _⟩ := hl; exact Heap.lt_size e
  refine wpAny_pyIter_list hl ?_
  refine ⟨_, _, _, _, _, _, rfl, Walks.list hh hp₁.objs.size ax (Nat.ne_of_lt hlt) its.toArray, by simpa using hsz, ⟨⟨_, Heap.get?_push_size _ rfl, rfl, rfl⟩, hl.push _⟩, fun b hb => ?_,
    elt_quiet (s₁ := { s with heap := hp₁, toks := tk₁ }) F N (fun i v hv => List.mem_of_getElem? (i := i) (by simpa using hv)) he, ?_⟩
  · show b < (hp₁.push _).objs.size
    rw [Heap.size_push]
    rcases List.mem_cons.mp hb with rfl | hb
    · exact Nat.lt_succ_self _
    · rw [List.mem_singleton.mp hb]; exact Nat.lt_succ_of_lt hlt
  · intro D h' tk ys vs hD hlD hpl hlen hP hF hk
    have ev : vs = its := by simpa using walked_is hlen hP
    rw [filter_true, ev] at hF
    have hk' : ∀ b o', b ≠ env.locals → b ∉ [hp₁.objs.size] → (hp₁.push _).get? b = some o' → h'.get? b = some o' := fun b o' _ q e => hk b o' q e
    obtain ⟨n, N'⟩ := end_news (s₁ := { s with heap := hp₁, toks := tk₁ }) F N hD hpl hk'
    exact hQ D h' tk n ys.toList (end_fr (s₁ := { s with heap := hp₁, toks := tk₁ }) F ((F.ns.push _).at' fun o e => hk _ o (fun q => absurd F.ns.lt (by rw [List.mem_singleton.mp q]; exact Nat.lt_irrefl _)) e) hk') (by simpa using N') hF
/-- y = [elt for x in range(n)] -/
theorem compA_range {elt iter : Expr} {x y : Str} {px py : Pos} {scope : Scope} {cl : List (Str × Addr)} {pos spos : Pos} {Q : Flow → Shared → Prop} (Fe : Value → Value → Prop) {n : Nat}
    (hh : A.handled = none)
    (h : wpAny (model prog w) A (eval iter env) (fun xv s₁ => ∃ r t u v h tk, xv = .ref r ∧ s₁ = { s with heap := h, toks := tk } ∧ Fr h₀ env.locals h m ∧ News h₀ env.locals h news ∧ IsRange h r 0 (n : Int) 1 t u v) E s)
    (he : EltOk prog w A env h₀ m news scope cl x elt (fun v => ∃ (i : Nat) (t : Tok), i < n ∧ v = .int (i : Int) t) Fe)
    (hQ : ∀ D h' tk k ys vs, Fr h₀ env.locals h' (fun z => if z = y then some (.ref D) else m z) → News h₀ env.locals h' ((D, W.listOf ys.toArray k) :: news) → Paired Fe vs ys → vs.length = n → (∀ (j : Nat) v, vs[j]? = some v → ∃ t, v = .int (j : Int) t) → Q .next { s with heap := h', toks := tk })
    (hsz : n ≤ sizeLine) (hn : n < 2 ^ 60)
    (hsw : swapsWith (.ListComp elt [⟨.Name x px, iter, [], 0⟩] scope pos) (some (.Name y py)) spos.line env = pure true)
    (hclos : closureFor scope env = pure cl) (hcell : ∀ z ∈ scope.names, z.2 ≠ .cell) (hkind : scope.kind = .function)
    (hnames : ∀ z ∈ scope.names, z.2 = .local → scope.names.lookup z.1 = some .local) (hx : scope.names.lookup x = some .local)
    (hy : env.kindOf y = some .local) (hp : (env.scope.kind == .class || (env.scope.kind == .module && env.locals != env.globals)) = false)
    (hs : ∀ x, foldedSetIterable iter env x = pure x) :
    wpAny (model prog w) A (exec (.Assign [.Name y py] (.ListComp elt [⟨.Name x px, iter, [], 0⟩] scope pos) spos) env) Q E s := by
  refine wpAny_Assign_ListComp_free (fun _ => true) Fe hsw hclos hcell hkind hnames hx hy hp (wpAny_mono h (fun xv s₁ h₁ => ?_) fun _ _ e => e) hs
  obtain ⟨r, t, u, v, hp₁, tk₁, rfl, rfl, F, N, hr⟩ := h₁
  refine wpAny_pyIter_range hr (small_one (by omega) (by omega) (by omega) (by omega)) ?_
  have hsz' : Builtin.Range.rangeSize 0 (n : Int) 1 = (n : Int) := by rw [rangeSize_one]; split <;> omega
  refine ⟨_, _, _, n, _, _, m, rfl, (Walks.range hh hp₁.objs.size 0 1 n).bound, hsz, by show IsRangeIter _ _ _ _ _; dsimp only; rw [hsz']; simpa using Heap.get?_push_size _ rfl, fun b hb => ?_, fun q => absurd F.ns.lt (by rw [List.mem_singleton.mp q]; exact Nat.lt_irrefl _), F.ns.push _,
    elt_quiet (s₁ := { s with heap := hp₁, toks := tk₁ }) F N (fun i v hv => by obtain ⟨h1, t, rfl⟩ := hv; exact ⟨i, t, h1, by simp⟩) he, ?_⟩
  · rw [List.mem_singleton.mp hb]
    show hp₁.objs.size < (hp₁.push _).objs.size
    rw [Heap.size_push]; exact Nat.lt_succ_self _
  · intro D h' tk ys vs hD hlD hpl hlen hP hF hn hk
    rw [filter_true] at hF
    obtain ⟨k, N'⟩ := end_news (s₁ := { s with heap := hp₁, toks := tk₁ }) F N hD hpl hk
    exact hQ D h' tk k ys.toList vs (end_fr (s₁ := { s with heap := hp₁, toks := tk₁ }) F hn hk) (by simpa using N') hF hlen fun j v hv => by obtain ⟨_, t, rfl⟩ := hP j v hv; exact ⟨t, by simp⟩
end
end Mine
end PartL5
-- part T0
section PartT0
open PySem PySem.W PyProof.Rows PySem.Spec PySem.Calls
set_option maxRecDepth 100000
set_option maxHeartbeats 4000000
namespace Mine
/-- the law's own body and scope, read off the row -/
def lawBody : List Stmt := match PySem.Challenge.pw_ny0004_01.main.body.drop 11 with
  | (.FunctionDef _ _ b _ _ _ _ _ _ _) :: _ => b
  | _ => []
def lawScope : Scope := match PySem.Challenge.pw_ny0004_01.main.body.drop 11 with
  | (.FunctionDef _ _ _ _ _ _ s _ _ _) :: _ => s
  | _ => default
abbrev lawEnv (L fa : Addr) (cd : Value) : Env := envOfC (Str.ofString "law") lawScope L fa cd
abbrev lawA (L fa : Addr) (cd : Value) : Around := callerA.deeper (lawEnv L fa cd)
abbrev lawM (w : World) : Model := model PySem.Challenge.rw_ny0004_01.row.prog w
/-- the rest of the law from statement k on -/
structure LawAt (w : World) (L fa : Addr) (cd : Value) (k : Nat) (Q : Flow → Shared → Prop) (s : Shared) : Prop where
  out : wpC (lawM w) (lawA L fa cd) (execs (lawBody.drop k) (lawEnv L fa cd)) Q s
theorem law_any {w : World} {L fa : Addr} {cd : Value} {k : Nat} {Q : Flow → Shared → Prop} {s : Shared} {st : Stmt} (hst : lawBody.drop k = st :: lawBody.drop (k + 1))
    (h : wpAny (lawM w) (lawA L fa cd) (exec st (lawEnv L fa cd)) (fun f s' => f = .next ∧ LawAt w L fa cd (k + 1) Q s') (fun _ _ => False) s) : LawAt w L fa cd k Q s := by
  refine ⟨?_⟩
  rw [hst]
  refine execs_any_C (wpAny_mono h (fun f s' x => ?_) fun _ _ x => x)
  obtain ⟨rfl, x⟩ := x
  exact cont_next x.out
theorem law_C {w : World} {L fa : Addr} {cd : Value} {k : Nat} {Q : Flow → Shared → Prop} {s : Shared} {st : Stmt} (hst : lawBody.drop k = st :: lawBody.drop (k + 1))
    (h : wpC (lawM w) (lawA L fa cd) (exec st (lawEnv L fa cd)) (fun f s' => (f = .next ∧ LawAt w L fa cd (k + 1) Q s') ∨ (f ≠ .next ∧ Q f s')) s) : LawAt w L fa cd k Q s := by
  refine ⟨?_⟩
  rw [hst]
  refine execs_cons_C (wpC_mono h fun f s' x => ?_)
  rcases x with ⟨rfl, x⟩ | ⟨h1, x⟩
  · exact x.out
  · cases f <;> first | exact x | exact absurd rfl h1
end Mine
end PartT0
-- part T4
section PartT4
open PySem PySem.W PyProof.Rows PySem.Spec PySem.Calls
set_option maxRecDepth 100000
set_option maxHeartbeats 4000000
namespace Mine
/-- three tables and their list, in the ledger -/
def TabsIn (news : List (Addr × Obj)) (O : Addr) (d : Nat → Tab) : Prop := ∀ p ∈ (O, W.listOf #[.ref (d 0).T, .ref (d 1).T, .ref (d 2).T] 0) :: ((d 0).led ++ ((d 1).led ++ (d 2).led)), p ∈ news
def three {α : Type} (a b c : α) : Nat → α
  | 0 => a
  | 1 => b
  | _ => c
section
variable {w : World} {L fa : Addr} {cd : Value} {h₀ : Heap} {m : Str → Option Value} {s : Shared} {Q : Flow → Shared → Prop}
theorem evi_name {prog : Program} {A : Around} {E : Value → Shared → Prop} {env : Env} {x : Str} {pos : Pos} {n : Int} {t : Tok} (hL : env.locals = L) (hk : env.scope.kind = .function) (hx : env.kindOf x = some .local) (hv : m x = some (.int n t)) (hd : (x == ("__debug__" : Str)) = false) :
    EvI prog w A E env h₀ L m (.Name x pos) n := fun _ s F h => wpAny_Name (wpAny_loadName_local hk hx (hL ▸ F.ns) hv (h t s.toks)) hd
theorem store_cell {A : Around} {E : Value → Shared → Prop} {x : Str} {c : Addr} {o : Obj} {v₀ : Option Value} {v : Value} {news : List (Addr × Obj)} {Q : Unit → Shared → Prop} (F : Fr h₀ L s.heap m) (N : News h₀ L s.heap ((c, o) :: news)) (hne : ∀ p ∈ news, p.1 ≠ c)
    (hc : (lawEnv L fa cd).cells.lookup x = some c) (hd : o.data = .cell v₀) (hk : (lawEnv L fa cd).scope.kind = .function) (hx : (lawEnv L fa cd).kindOf x = some .cell)
    (h : ∀ h' o', Fr h₀ L h' m → News h₀ L h' ((c, o') :: news) → o'.data = .cell (some v) → Q () { s with heap := h' }) : wpAny (lawM w) A (storeName (lawEnv L fa cd) x v) Q E s := by
  have z := N (c, o) (.head _)
  refine wpAny_storeName_cell hk hx hc ⟨o, z.1, hd⟩ fun h' hv hs => ?_
  obtain ⟨o', ho', hd'⟩ := hv
  refine h h' o' (F.change hs z.2.1 z.2.2) (fun p hp => ?_) hd'
  rcases List.mem_cons.mp hp with rfl | hp
  · exact ⟨ho', z.2⟩
  · have zp := N p (.tail _ hp)
    exact ⟨hs.extBut _ _ (hne p hp) zp.1, zp.2⟩
/-- x = three tables, x a cell -/
theorem law_tabs {k : Nat} {x : Str} {p1 p2 p3 q0 q1 q2 q00 q01 q10 q11 q20 q21 : Pos} {e000 e001 e010 e011 e100 e101 e110 e111 e200 e201 e210 e211 : Expr} (co : Nat → Co) {c : Addr} {o : Obj} {v₀ : Option Value} {news : List (Addr × Obj)}
    (F : Fr h₀ L s.heap m) (N : News h₀ L s.heap ((c, o) :: news)) (hne : ∀ p ∈ news, p.1 ≠ c)
    (hc : (lawEnv L fa cd).cells.lookup x = some c) (hd : o.data = .cell v₀) (hk : (lawEnv L fa cd).scope.kind = .function) (hx : (lawEnv L fa cd).kindOf x = some .cell)
    (i000 : EvI PySem.Challenge.rw_ny0004_01.row.prog w (lawA L fa cd) (fun _ _ => False) (lawEnv L fa cd) h₀ L m e000 (co 0).a00) (i001 : EvI PySem.Challenge.rw_ny0004_01.row.prog w (lawA L fa cd) (fun _ _ => False) (lawEnv L fa cd) h₀ L m e001 (co 0).a01) (i010 : EvI PySem.Challenge.rw_ny0004_01.row.prog w (lawA L fa cd) (fun _ _ => False) (lawEnv L fa cd) h₀ L m e010 (co 0).a10) (i011 : EvI PySem.Challenge.rw_ny0004_01.row.prog w (lawA L fa cd) (fun _ _ => False) (lawEnv L fa cd) h₀ L m e011 (co 0).a11)
    (i100 : EvI PySem.Challenge.rw_ny0004_01.row.prog w (lawA L fa cd) (fun _ _ => False) (lawEnv L fa cd) h₀ L m e100 (co 1).a00) (i101 : EvI PySem.Challenge.rw_ny0004_01.row.prog w (lawA L fa cd) (fun _ _ => False) (lawEnv L fa cd) h₀ L m e101 (co 1).a01) (i110 : EvI PySem.Challenge.rw_ny0004_01.row.prog w (lawA L fa cd) (fun _ _ => False) (lawEnv L fa cd) h₀ L m e110 (co 1).a10) (i111 : EvI PySem.Challenge.rw_ny0004_01.row.prog w (lawA L fa cd) (fun _ _ => False) (lawEnv L fa cd) h₀ L m e111 (co 1).a11)
    (i200 : EvI PySem.Challenge.rw_ny0004_01.row.prog w (lawA L fa cd) (fun _ _ => False) (lawEnv L fa cd) h₀ L m e200 (co 2).a00) (i201 : EvI PySem.Challenge.rw_ny0004_01.row.prog w (lawA L fa cd) (fun _ _ => False) (lawEnv L fa cd) h₀ L m e201 (co 2).a01) (i210 : EvI PySem.Challenge.rw_ny0004_01.row.prog w (lawA L fa cd) (fun _ _ => False) (lawEnv L fa cd) h₀ L m e210 (co 2).a10) (i211 : EvI PySem.Challenge.rw_ny0004_01.row.prog w (lawA L fa cd) (fun _ _ => False) (lawEnv L fa cd) h₀ L m e211 (co 2).a11)
    (hst : lawBody.drop k = Stmt.Assign [.Name x p1] (.List [(.List [(.List [e000, e001] q00), (.List [e010, e011] q01)] q0), (.List [(.List [e100, e101] q10), (.List [e110, e111] q11)] q1), (.List [(.List [e200, e201] q20), (.List [e210, e211] q21)] q2)] p2) p3 :: lawBody.drop (k + 1))
    (next : ∀ h' tk rest O d o', Fr h₀ L h' m → News h₀ L h' ((c, o') :: (news ++ rest)) → OwnOff rest ((c, o) :: news |>.map (·.1)) → o'.data = .cell (some (.ref O)) → (∀ k, k < 3 → (d k).co = co k) → TabsIn rest O d → LawAt w L fa cd (k + 1) Q { s with heap := h', toks := tk })
    (j000 : starEach (e000 :: [e001]) (lawEnv L fa cd) = (false, eval e000 (lawEnv L fa cd)) :: starEach [e001] (lawEnv L fa cd))
    (j001 : starEach (e001 :: []) (lawEnv L fa cd) = (false, eval e001 (lawEnv L fa cd)) :: starEach [] (lawEnv L fa cd))
    (j010 : starEach (e010 :: [e011]) (lawEnv L fa cd) = (false, eval e010 (lawEnv L fa cd)) :: starEach [e011] (lawEnv L fa cd))
    (j011 : starEach (e011 :: []) (lawEnv L fa cd) = (false, eval e011 (lawEnv L fa cd)) :: starEach [] (lawEnv L fa cd))
    (j100 : starEach (e100 :: [e101]) (lawEnv L fa cd) = (false, eval e100 (lawEnv L fa cd)) :: starEach [e101] (lawEnv L fa cd))
    (j101 : starEach (e101 :: []) (lawEnv L fa cd) = (false, eval e101 (lawEnv L fa cd)) :: starEach [] (lawEnv L fa cd))
    (j110 : starEach (e110 :: [e111]) (lawEnv L fa cd) = (false, eval e110 (lawEnv L fa cd)) :: starEach [e111] (lawEnv L fa cd))
    (j111 : starEach (e111 :: []) (lawEnv L fa cd) = (false, eval e111 (lawEnv L fa cd)) :: starEach [] (lawEnv L fa cd))
    (j200 : starEach (e200 :: [e201]) (lawEnv L fa cd) = (false, eval e200 (lawEnv L fa cd)) :: starEach [e201] (lawEnv L fa cd))
    (j201 : starEach (e201 :: []) (lawEnv L fa cd) = (false, eval e201 (lawEnv L fa cd)) :: starEach [] (lawEnv L fa cd))
    (j210 : starEach (e210 :: [e211]) (lawEnv L fa cd) = (false, eval e210 (lawEnv L fa cd)) :: starEach [e211] (lawEnv L fa cd))
    (j211 : starEach (e211 :: []) (lawEnv L fa cd) = (false, eval e211 (lawEnv L fa cd)) :: starEach [] (lawEnv L fa cd)) : LawAt w L fa cd k Q s := by
  refine law_any hst ?_
  refine Assign_Name_A (hs := by with_unfolding_all rfl) ?_
  refine tabs_new (c1 := co 0) (c2 := co 1) (c3 := co 2) F N
    (fun s n Q F N h => tab_new F N i000 i001 i010 i011 h j000 j001 j010 j011)
    (fun s n Q F N h => tab_new F N i100 i101 i110 i111 h j100 j101 j110 j111)
    (fun s n Q F N h => tab_new F N i200 i201 i210 i211 h j200 j201 j210 j211) ?_
  intro O d1 d2 d3 h8 tk8 rest hd1 hd2 hd3 F8 N8 off8 hrest8
  refine store_cell (news := news ++ rest) F8 N8 ?_ hc hd hk hx ?_
  · intro p hp
    rcases List.mem_append.mp hp with hp | hp
    · exact hne p hp
    · exact off8 p hp _ (.head _)
  · intro h9 o' F9 N9 d'
    refine ⟨rfl, next h9 tk8 rest O (three d1 d2 d3) o' F9 N9 off8 d' ?_ hrest8⟩
    intro k hk
    rcases k with _ | _ | _ | k
    · exact hd1
    · exact hd2
    · exact hd3
    · omega
end
end Mine
end PartT4
-- part T5
section PartT5
open PySem PySem.W PyProof.Rows PySem.Spec PySem.Calls
set_option maxRecDepth 100000
set_option maxHeartbeats 4000000
namespace Mine
theorem ne_off (L i j : Nat) (h : i ≠ j) : L + i ≠ L + j := by omega
theorem ne_far (L D i : Nat) (h : L + 4 < D) (hi : i ≤ 4) : D ≠ L + i := by omega
section
variable {w : World} {L fa : Addr} {cd : Value} {h₀ : Heap} {m : Str → Option Value} {s : Shared} {Q : Flow → Shared → Prop}
theorem law4 {D : Addr} {lw c1 c2 o6 o5 : Obj} (F : Fr h₀ L s.heap m) (N : News h₀ L s.heap [(L + 3, c2), (L + 4, c1), (D, lw), (L + 2, o6), (L + 1, o5)]) (hD : L + 4 < D) (e2 : c2.data = .cell none)
    (next : ∀ h' tk rest O d o3, Fr h₀ L h' m → News h₀ L h' ((L + 4, c1) :: (L + 3, o3) :: (D, lw) :: (L + 2, o6) :: (L + 1, o5) :: rest) → OwnOff rest [L + 4] → o3.data = .cell (some (.ref O)) → (∀ k, k < 3 → (d k).co = overCo k) → TabsIn rest O d → LawAt w L fa cd 5 Q { s with heap := h', toks := tk }) :
    LawAt w L fa cd 4 Q s := by
  refine law_tabs (k := 4) overCo F N ?hne rfl e2 rfl rfl evi_const evi_const evi_const evi_const evi_const evi_const evi_const evi_const evi_const evi_const evi_const (evi_neg evi_const) rfl ?next rfl rfl rfl rfl rfl rfl rfl rfl rfl rfl rfl rfl
  case hne =>
    intro p hp
    simp only [List.mem_cons, List.not_mem_nil, or_false] at hp
    rcases hp with rfl | rfl | rfl | rfl
    · exact ne_off L 4 3 (by decide)
    · exact ne_far L D 3 hD (by decide)
    · exact ne_off L 2 3 (by decide)
    · exact ne_off L 1 3 (by decide)
  case next =>
    intro h' tk rest O d o3 F' N' off hd hco ht
    refine next h' tk rest O d o3 F' (fun p hp => N' p ?_) (fun p hp b hb => off p hp b ?_) hd hco ht
    · rcases List.mem_cons.mp hp with rfl | hp
      · exact .tail _ (.head _)
      · rcases List.mem_cons.mp hp with rfl | hp
        · exact .head _
        · exact .tail _ (.tail _ hp)
    · rw [List.mem_singleton.mp hb]
      exact .tail _ (.head _)
theorem law5 {D : Addr} {lw c1 o3 o6 o5 : Obj} {rest : List (Addr × Obj)} {hf : Int} {th : Tok} (F : Fr h₀ L s.heap m) (hhf : m (Str.ofString "half") = some (.int hf th))
    (N : News h₀ L s.heap ((L + 4, c1) :: (L + 3, o3) :: (D, lw) :: (L + 2, o6) :: (L + 1, o5) :: rest)) (off : OwnOff rest [L + 4]) (hD : L + 4 < D) (e1 : c1.data = .cell none)
    (next : ∀ h' tk news B b o4, Fr h₀ L h' m → News h₀ L h' news → (L + 4, o4) ∈ news → (∀ p ∈ (L + 3, o3) :: (D, lw) :: (L + 2, o6) :: (L + 1, o5) :: rest, p ∈ news) → o4.data = .cell (some (.ref B)) → (∀ k, k < 3 → (b k).co = backCo hf k) → TabsIn news B b → LawAt w L fa cd 6 Q { s with heap := h', toks := tk }) :
    LawAt w L fa cd 5 Q s := by
  have hh : ∀ {pos : Pos}, EvI PySem.Challenge.rw_ny0004_01.row.prog w (lawA L fa cd) (fun _ _ => False) (lawEnv L fa cd) h₀ L m (.Name (Str.ofString "half") pos) hf := evi_name rfl rfl rfl hhf (by decide)
  refine law_tabs (k := 5) (backCo hf) F N ?hne rfl e1 rfl rfl evi_const evi_const (evi_neg evi_const) evi_const evi_const (evi_neg evi_const) evi_const evi_const hh hh hh (evi_neg hh) rfl ?next rfl rfl rfl rfl rfl rfl rfl rfl rfl rfl rfl rfl
  case hne =>
    intro p hp
    simp only [List.mem_cons] at hp
    rcases hp with rfl | rfl | rfl | rfl | hp
    · exact ne_off L 3 4 (by decide)
    · exact ne_far L D 4 hD (by decide)
    · exact ne_off L 2 4 (by decide)
    · exact ne_off L 1 4 (by decide)
    · exact off p hp _ (.head _)
  case next =>
    intro h' tk rest' B b o4 F' N' off' hd hco ht
    exact next h' tk _ B b o4 F' N' (.head _) (fun p hp => .tail _ (List.mem_append.mpr (.inl hp))) hd hco (fun p hp => .tail _ (List.mem_append.mpr (.inr (ht p hp))))
end
end Mine
end PartT5
-- part T6
section PartT6
open PySem PySem.W PyProof.Rows PySem.Spec PySem.Calls
set_option maxRecDepth 100000
set_option maxHeartbeats 4000000
namespace Mine
set_option linter.unusedVariables false
/-- an expression that gives an int, the heap standing still -/
def EvH (prog : Program) (w : World) (A : Around) (E : Value → Shared → Prop) (env : Env) (h : Heap) (e : Expr) (n : Int) : Prop :=
  ∀ (Q : Value → Shared → Prop) (s : Shared), s.heap = h → (∀ t k, Q (.int n t) { s with toks := k }) → wpAny (model prog w) A (eval e env) Q E s
section
variable {prog : Program} {w : World} {A : Around} {E : Value → Shared → Prop} {env : Env} {h : Heap} {e1 e2 : Expr} {a b : Int} {x : Str} {pos : Pos}
theorem evh_const {n : Int} {k : Nat} : EvH prog w A E env h (.Constant (.int n) k pos) n := fun _ _ _ h => wpAny_Constant_int (h _ _)
theorem evh_name {m : Str → Option Value} {n : Int} {t : Tok} (hn : h.Ns env.locals m) (hv : m x = some (.int n t)) (hk : env.scope.kind = .function := by rfl) (hx : env.kindOf x = some .local := by rfl) (hd : (x == ("__debug__" : Str)) = false := by decide) :
    EvH prog w A E env h (.Name x pos) n := fun Q s e k => by subst e; exact wpAny_Name (wpAny_loadName_local hk hx hn hv (k t s.toks)) hd
theorem evh_cell {c : Addr} {n : Int} {t : Tok} (hv : h.IsCell c (some (.int n t))) (hc : env.cells.lookup x = some c) (hk : env.scope.kind = .function := by rfl) (hx : env.kindOf x = some .cell := by rfl) (hd : (x == ("__debug__" : Str)) = false := by decide) :
    EvH prog w A E env h (.Name x pos) n := fun Q s e k => by subst e; exact wpAny_Name (wpAny_loadName_cell hk hx hc hv (k t s.toks)) hd
theorem evh_bin {op : Operator} {c : Int} (i1 : EvH prog w A E env h e1 a) (i2 : EvH prog w A E env h e2 b)
    (r : ∀ (Q : Value → Shared → Prop) (s : Shared) (t u : Tok), s.heap = h → (∀ t k, Q (.int c t) { s with toks := k }) → wpAny (model prog w) A (binaryOp op (.int a t) (.int b u)) Q E s) : EvH prog w A E env h (.BinOp e1 op e2 pos) c :=
  fun Q s e k => wpAny_BinOp (i1 _ _ e fun t k1 => i2 _ _ e fun u k2 => r _ _ _ _ e fun t' k' => k t' k')
theorem evh_add (i1 : EvH prog w A E env h e1 a) (i2 : EvH prog w A E env h e2 b) : EvH prog w A E env h (.BinOp e1 .Add e2 pos) (a + b) := evh_bin i1 i2 fun _ _ _ _ _ k => add_int (k _ _)
theorem evh_mul (hm : IntMulOk a b) (i1 : EvH prog w A E env h e1 a) (i2 : EvH prog w A E env h e2 b) : EvH prog w A E env h (.BinOp e1 .Mult e2 pos) (a * b) := evh_bin i1 i2 fun _ _ _ _ _ k => mul_int (k _ _) hm
theorem evh_mod (hb : b ≠ 0) (i1 : EvH prog w A E env h e1 a) (i2 : EvH prog w A E env h e2 b) : EvH prog w A E env h (.BinOp e1 .Mod e2 pos) (a.fmod b) := evh_bin i1 i2 fun _ _ _ _ _ k => mod_int' hb (k _ _)
theorem evh_fdiv (hb : b ≠ 0) (hp : ∀ s : Shared, s.heap = h → PySem.PylongRoom (model prog w) A s) (i1 : EvH prog w A E env h e1 a) (i2 : EvH prog w A E env h e2 b) : EvH prog w A E env h (.BinOp e1 .FloorDiv e2 pos) (a.fdiv b) :=
  evh_bin i1 i2 fun _ s _ _ e k => floordiv_int hb (k _ _) (.inr (hp s e))
theorem evh_pow {k : Nat} (hsz : (Builtin.Int.intBits a : Int) * k ≤ 2 ^ 27) (i1 : EvH prog w A E env h e1 a) (i2 : EvH prog w A E env h e2 (k : Int)) : EvH prog w A E env h (.BinOp e1 .Pow e2 pos) (a ^ k) :=
  evh_bin i1 i2 fun _ s _ _ e kk => pow_int (by omega) hsz (by rw [Int.toNat_natCast]; exact kk _ _)
end
section
variable {w : World} {L fa : Addr} {cd : Value} {h₀ : Heap} {m : Str → Option Value} {s : Shared} {mean : ExcName → Option Value} {mg mb : Str → Option Value}
theorem law_room {h : Heap} (T : Top hd.view_39 (looseW hd.view_39 []) mean mg mb h₀) (F : Fr h₀ L h m) : ∀ s : Shared, s.heap = h → PySem.PylongRoom (lawM w) (lawA L fa cd) s := by
  intro s e
  subst e
  exact PySem.PylongRoom.of (T.nolimit.keeps F.keep) (of_decide_eq_true (by with_unfolding_all rfl))
variable {K : Frag} {p : Program} {loose : List Str} {A : Around} {E : Value → Shared → Prop} {x : Str} {pos : Pos} {v : Value} {Q : Value → Shared → Prop}
theorem law_built (F : Fr h₀ L s.heap m) (X : K.In h₀) (T : Top p loose mean mg mb h₀) (e : nsIn K mainGlobals x = some none) (hv : bootBuiltins x = some v) (hn : x ≠ "__name__") (h : Q v s)
    (hx : (lawEnv L fa cd).kindOf x = some .globalImplicit := by rfl) (hd : (x == ("__debug__" : Str)) = false := by decide) :
    wpAny (lawM w) A (eval (.Name x pos) (lawEnv L fa cd)) Q E s :=
  Name_function_global rfl hx (loadGlobal_builtin (env := lawEnv L fa cd) (T.keeps F.keep).g (mg_none_of X T.g e) (T.keeps F.keep).b ((T.builtins x hn).trans hv) h) hd
theorem law_glob (F : Fr h₀ L s.heap m) (X : K.In h₀) (T : Top p loose mean mg mb h₀) (e : nsIn K mainGlobals x = some (some v)) (h : Q v s)
    (hx : (lawEnv L fa cd).kindOf x = some .globalImplicit := by rfl) (hd : (x == ("__debug__" : Str)) = false := by decide) :
    wpAny (lawM w) A (eval (.Name x pos) (lawEnv L fa cd)) Q E s :=
  Name_function_global rfl hx (loadGlobal_global (env := lawEnv L fa cd) (T.keeps F.keep).g (mg_of X T.g e) h) hd
theorem law_loc (F : Fr h₀ L s.heap m) (hv : m x = some v) (h : Q v s) (hx : (lawEnv L fa cd).kindOf x = some .local := by rfl) (hd : (x == ("__debug__" : Str)) = false := by decide) :
    wpAny (lawM w) A (eval (.Name x pos) (lawEnv L fa cd)) Q E s := wpAny_Name (wpAny_loadName_local rfl hx F.ns hv h) hd
end
theorem ints_of_paired {Fe : Value → Value → Prop} {g : Int → Int} (hF : ∀ v y n t, v = .int n t → Fe v y → ∃ t', y = .int (g n) t') : ∀ {vs ys : List Value} {ns : List Int}, IntsAre vs ns → Paired Fe vs ys → IntsAre ys (ns.map g)
  | _, _, _, .nil, .nil => .nil
  | _, _, _, .cons n t r, .cons h q => by
    obtain ⟨t', rfl⟩ := hF _ _ n t rfl h
    exact .cons _ _ (ints_of_paired hF r q)
theorem ints_of_paired_nat {Fe : Value → Value → Prop} {g : Nat → Int} (hF : ∀ v y (n : Nat) t, v = .int (n : Int) t → Fe v y → ∃ t', y = .int (g n) t') : ∀ {vs ys : List Value} {ns : List Nat}, IntsAre vs (ns.map fun n : Nat => (n : Int)) → Paired Fe vs ys → IntsAre ys (ns.map g)
  | _, _, [], .nil, .nil => .nil
  | _, _, n :: ns, .cons _ t r, .cons h q => by
    obtain ⟨t', rfl⟩ := hF _ _ n t rfl h
    exact .cons _ _ (ints_of_paired_nat hF r q)
theorem ints_of_range : ∀ {vs : List Value} {n a : Nat}, vs.length = n → (∀ (j : Nat) v, vs[j]? = some v → ∃ t, v = .int ((a + j : Nat) : Int) t) → IntsAre vs ((List.range' a n).map fun i : Nat => (i : Int))
  | [], n, a, hl, _ => by cases hl; exact .nil
  | v :: vs, n, a, hl, hv => by
    cases hl
    obtain ⟨t, rfl⟩ := hv 0 v rfl
    refine .cons _ _ (ints_of_range (a := a + 1) rfl fun j v h => ?_)
    obtain ⟨t, rfl⟩ := hv (j + 1) v h
    exact ⟨t, by congr 2; omega⟩
/-- which function each figure has -/
def kindsOf (tot : Int) : List Nat := (List.range' 0 (1 + (tot.fdiv 27).fmod 3).toNat).map fun i => ((tot.fdiv (3 ^ i)).fmod 3).toNat
theorem kinds_facts (tot : Int) : (∀ k ∈ kindsOf tot, k < 3) ∧ 0 < (kindsOf tot).length ∧ (kindsOf tot).length ≤ 3 := by
  have h1 := fmod_lo (tot.fdiv 27) (n := 3) (by decide)
  have h2 := fmod_hi (tot.fdiv 27) (n := 3) (by decide)
  refine ⟨fun k hk => ?_, ?_, ?_⟩
  · obtain ⟨i, _, rfl⟩ := List.mem_map.mp hk
    have h3 := fmod_lo (tot.fdiv (3 ^ i)) (n := 3) (by decide)
    have h4 := fmod_hi (tot.fdiv (3 ^ i)) (n := 3) (by decide)
    omega
  · simp only [kindsOf, List.length_map, List.length_range']; omega
  · simp only [kindsOf, List.length_map, List.length_range']; omega
section
variable {w : World} {L fa : Addr} {cd : Value} {h₀ : Heap} {m : Str → Option Value} {s : Shared} {Q : Flow → Shared → Prop} {mean : ExcName → Option Value} {mg mb : Str → Option Value} {news : List (Addr × Obj)}
theorem law6 {o5 : Obj} {tot : Int} {tt : Tok} (X : (Mine.hd.heap_39 w.params).In h₀) (T : Top hd.view_39 (looseW hd.view_39 []) mean mg mb h₀) (F : Fr h₀ L s.heap m) (N : News h₀ L s.heap news) (ht : (L + 1, o5) ∈ news) (d5 : o5.data = .cell (some (.int tot tt)))
    (next : ∀ D h' tk k ys, Fr h₀ L h' (fun z => if z = Str.ofString "kinds" then some (.ref D) else m z) → News h₀ L h' ((D, W.listOf ys.toArray k) :: news) → IntsAre ys ((kindsOf tot).map fun k : Nat => (k : Int)) → LawAt w L fa cd 7 Q { s with heap := h', toks := tk }) :
    LawAt w L fa cd 6 Q s := by
  have kf : (Mine.hd.heap_39 w.params).In h₀ → PySem.Challenge.rw_ny0004_01 = PySem.Challenge.rw_ny0004_01 := by
    k_fill
    exact fun _ => rfl
  have h1 := fmod_lo (tot.fdiv 27) (n := 3) (by decide)
  have h2 := fmod_hi (tot.fdiv 27) (n := 3) (by decide)
  obtain ⟨n, hn⟩ : ∃ n : Nat, 1 + (tot.fdiv 27).fmod 3 = (n : Int) := ⟨(1 + (tot.fdiv 27).fmod 3).toNat, by omega⟩
  refine law_any rfl ?_
  refine compA_range (h₀ := h₀) (m := m) (news := news) (n := n) (fun v y => ∀ (i : Nat) (t : Tok), v = .int (i : Int) t → ∃ t', y = .int ((tot.fdiv (3 ^ i)).fmod 3) t') rfl ?hiter ?helt ?hQ (by rw [sizeLine_eq]; omega) (by omega)
    (by with_unfolding_all rfl) (by with_unfolding_all rfl) (by decide) rfl (by decide) rfl rfl rfl (by intro _; with_unfolding_all rfl)
  case hiter =>
    refine Call_Name1 ?_
    refine law_built F X T ?hns rfl (by decide) ?_
    case hns => k_is
    refine PySem.callWith_type1 ?_
    refine (evh_add evh_const (evh_mod (by decide) (evh_fdiv (by decide) (law_room T F) (evh_cell ⟨o5, (N _ ht).1, d5⟩ rfl) evh_const) evh_const)) _ _ rfl fun t k => ?_
    rw [hn]
    refine call_range_1 ?_
    exact ⟨_, _, _, _, _, _, rfl, rfl, F.push _, N.grown (fun _ _ e => Heap.get?_push_of_some _ e), Heap.get?_push_size _ rfl⟩
  case helt =>
    rintro C v s₃ m₃ E' ⟨i, t, hi, rfl⟩ hns hm F₃ N₃
    have hpow : ((3 : Int) ^ i) ≠ 0 := by
      have : (0 : Int) < 3 ^ i := Int.pow_pos (by decide)
      omega
    have hi3 : i ≤ 3 := by omega
    refine (evh_mod (by decide) (evh_fdiv hpow (law_room T F₃) (evh_cell ⟨o5, (N₃ _ ht).1, d5⟩ rfl) (evh_pow ?_ evh_const (evh_name hns hm))) evh_const) _ _ rfl fun t' k' => ⟨?_, ?_⟩
    · have : Builtin.Int.intBits 3 = 2 := by decide +kernel
      rw [this]; omega
    · intro j u e
      cases e
      exact ⟨_, rfl⟩
    · exact ⟨_, _, rfl, fun _ _ e => e⟩
  case hQ =>
    intro D h' tk k ys vs F' N' hp hl hv
    refine ⟨rfl, next D h' tk k ys F' N' ?_⟩
    have hr := ints_of_range (a := 0) hl (fun j v h => by obtain ⟨t, rfl⟩ := hv j v h; exact ⟨t, by simp⟩)
    have hy := ints_of_paired_nat (g := fun i => (tot.fdiv (3 ^ i)).fmod 3) (fun v y i t e h => h i t e) hr hp
    have e : (List.range' 0 n).map (fun i => (tot.fdiv (3 ^ i)).fmod 3) = (kindsOf tot).map fun k : Nat => (k : Int) := by
      have en : (1 + (tot.fdiv 27).fmod 3).toNat = n := by omega
      rw [kindsOf, en, List.map_map]
      refine List.map_congr_left fun i _ => ?_
      have h3 := fmod_lo (tot.fdiv (3 ^ i)) (n := 3) (by decide)
      simp only [Function.comp]
      omega
    rw [e] at hy
    exact hy
end
end Mine
end PartT6
-- part T7
section PartT7
open PySem PySem.W PyProof.Rows PySem.Spec PySem.Calls
set_option maxRecDepth 100000
set_option maxHeartbeats 4000000
namespace Mine
set_option linter.unusedVariables false
theorem set_ne {m : Str → Option Value} {x y : Str} {u v : Value} (h : x ≠ y) (hv : m x = some v) : (fun z => if z = y then some u else m z) x = some v := by
  show (if x = y then some u else m x) = some v
  rw [if_neg h, hv]
theorem set_eq {m : Str → Option Value} {y : Str} {u : Value} : (fun z => if z = y then some u else m z) y = some u := if_pos rfl
theorem ints_mem {v : Value} : ∀ {vs : List Value} {ks : List Nat}, IntsAre vs (ks.map fun k : Nat => (k : Int)) → v ∈ vs → ∃ k t, k ∈ ks ∧ v = .int ((k : Nat) : Int) t
  | _, [], .nil, h => nomatch h
  | _, k :: ks, .cons _ t r, h => by
    rcases List.mem_cons.mp h with rfl | h
    · exact ⟨k, t, .head _, rfl⟩
    · obtain ⟨k', t', h1, h2⟩ := ints_mem r h
      exact ⟨k', t', .tail _ h1, h2⟩
theorem ints_mem' {v : Value} : ∀ {vs : List Value} {ns : List Int}, IntsAre vs ns → v ∈ vs → ∃ n t, n ∈ ns ∧ v = .int n t
  | _, [], .nil, h => nomatch h
  | _, k :: ks, .cons _ t r, h => by
    rcases List.mem_cons.mp h with rfl | h
    · exact ⟨k, t, .head _, rfl⟩
    · obtain ⟨k', t', h1, h2⟩ := ints_mem' r h
      exact ⟨k', t', .tail _ h1, h2⟩
theorem refs_of_paired {Fe : Value → Value → Prop} {g : Nat → Value} (hF : ∀ v y (n : Nat) t, v = .int (n : Int) t → Fe v y → y = g n) : ∀ {vs ys : List Value} {ns : List Nat}, IntsAre vs (ns.map fun n : Nat => (n : Int)) → Paired Fe vs ys → ys = ns.map g
  | _, _, [], .nil, .nil => rfl
  | _, _, n :: ns, .cons _ t r, .cons h q => by
    obtain rfl := hF _ _ n t rfl h
    rw [refs_of_paired hF r q]
    rfl
theorem fmod_pos {a b : Int} (h : 0 < b) : a.fmod b = a % b := Int.fmod_eq_emod_of_nonneg a (by omega)
section
variable {w : World} {L fa : Addr} {cd : Value} {h₀ : Heap} {m : Str → Option Value} {s : Shared} {Q : Flow → Shared → Prop} {mean : ExcName → Option Value} {mg mb : Str → Option Value} {news : List (Addr × Obj)}
theorem law_store {A : Around} {E : Value → Shared → Prop} {x : Str} {v : Value} {Q : Unit → Shared → Prop} (F : Fr h₀ L s.heap m) (N : News h₀ L s.heap news)
    (h : ∀ h', Fr h₀ L h' (fun y => if y = x then some v else m y) → News h₀ L h' news → Q () { s with heap := h', toks := s.toks + 1 })
    (hx : (lawEnv L fa cd).kindOf x = some .local := by rfl) : wpAny (lawM w) A (storeName (lawEnv L fa cd) x v) Q E s :=
  wpAny_storeName_local hx F.ns (fun h' hn hs => h h' (F.set hn hs) (N.set hs)) rfl
theorem law7 {Dk : Addr} {ks : List Nat} {kv : List Value} {c : Nat} (X : (Mine.hd.heap_39 w.params).In h₀) (T : Top hd.view_39 (looseW hd.view_39 []) mean mg mb h₀) (F : Fr h₀ L s.heap m) (N : News h₀ L s.heap news)
    (hm : m (Str.ofString "kinds") = some (.ref Dk)) (hD : (Dk, W.listOf kv.toArray c) ∈ news) (hI : IntsAre kv (ks.map fun k : Nat => (k : Int))) (hk3 : ks.length ≤ 3)
    (next : ∀ h' tk t, Fr h₀ L h' (fun z => if z = Str.ofString "length" then some (.int ((2 ^ ks.length : Nat) : Int) t) else m z) → News h₀ L h' news → LawAt w L fa cd 8 Q { s with heap := h', toks := tk }) :
    LawAt w L fa cd 7 Q s := by
  have kf : (Mine.hd.heap_39 w.params).In h₀ → PySem.Challenge.rw_ny0004_01 = PySem.Challenge.rw_ny0004_01 := by
    k_fill
    exact fun _ => rfl
  refine law_any rfl ?_
  refine Assign_Name_A (hs := by with_unfolding_all rfl) ?_
  have hlen : kv.length = ks.length := by rw [hI.length, List.length_map]
  have evl : ∀ {p1 p2 p3 : Pos}, EvH PySem.Challenge.rw_ny0004_01.row.prog w (lawA L fa cd) (fun _ _ => False) (lawEnv L fa cd) s.heap (.Call (.Name (Str.ofString "len") p1) [.Name (Str.ofString "kinds") p2] [] p3) ((ks.length : Nat) : Int) := by
    intro p1 p2 p3 Q s' e k
    have F' : Fr h₀ L s'.heap m := e ▸ F
    refine Call_Name1 ?_
    refine law_built F' X T ?hns rfl (by decide) ?_
    case hns => k_is
    refine PySem.callWith_builtin1 ?_
    refine law_loc F' hm ?_
    have hl : s'.heap.IsList Dk kv.toArray := e ▸ PySem.IsL.isList (N _ hD).1
    have esz : ((kv.toArray.size : Nat) : Int) = (ks.length : Int) := by rw [List.size_toArray, hlen]
    refine len_list hl (by rw [esz]; omega) ?_
    rw [esz]
    exact k _ _
  have hb : Builtin.Int.intBits 2 = 2 := by decide +kernel
  refine (evh_pow (by rw [hb]; omega) evh_const evl) _ _ rfl fun t k => ?_
  have ep : ((2 : Int) ^ ks.length) = ((2 ^ ks.length : Nat) : Int) := by simp
  rw [ep]
  exact law_store F N fun h' F' N' => ⟨rfl, next h' _ t F' N'⟩
theorem elt_mod {cl : List (Str × Addr)} {scope : Scope} {x : Str} {its : List Value} {ns : List Int} {o6 : Obj} {md : Int} {tm : Tok} {p1 p2 p3 : Pos} (hI : IntsAre its ns) (hmd : 0 < md) (h6 : (L + 2, o6) ∈ news) (d6 : o6.data = .cell (some (.int md tm)))
    (hc : ∀ C, (compEnvC scope cl C (lawEnv L fa cd)).cells.lookup (Str.ofString "modulus") = some (L + 2)) (hk : ∀ C, (compEnvC scope cl C (lawEnv L fa cd)).scope.kind = .function)
    (hx : ∀ C, (compEnvC scope cl C (lawEnv L fa cd)).kindOf x = some .local) (hxm : ∀ C, (compEnvC scope cl C (lawEnv L fa cd)).kindOf (Str.ofString "modulus") = some .cell) (hd : (x == ("__debug__" : Str)) = false) :
    EltOk PySem.Challenge.rw_ny0004_01.row.prog w (lawA L fa cd) (lawEnv L fa cd) h₀ m news scope cl x (.BinOp (.Name x p1) .Mod (.Name (Str.ofString "modulus") p2) p3) (fun v => v ∈ its) (fun v y => ∀ n t, v = .int n t → ∃ t', y = .int (n % md) t') := by
  intro C v s₃ m₃ E' hv hns hm F₃ N₃
  obtain ⟨n, t, _, rfl⟩ := ints_mem' hI hv
  refine (evh_mod (by omega) (evh_name (env := compEnvC scope cl C (lawEnv L fa cd)) hns hm (hk C) (hx C) hd) (evh_cell ⟨o6, (N₃ _ h6).1, d6⟩ (hc C) (hk C) (hxm C))) _ _ rfl fun t' k' => ⟨?_, _, _, rfl, fun _ _ e => e⟩
  intro n' t'' e
  cases e
  rw [fmod_pos hmd]
  exact ⟨_, rfl⟩
theorem law8 {D : Addr} {ws : List Value} {nl : List Int} {n : Nat} {tl : Tok} {o6 : Obj} {md : Int} {tm : Tok} {c : Nat} (F : Fr h₀ L s.heap m) (N : News h₀ L s.heap news)
    (hm : m (Str.ofString "numbers") = some (.ref D)) (hD : (D, W.listOf ws.toArray c) ∈ news) (hI : IntsAre ws nl) (hl16 : nl.length = 16) (hml : m (Str.ofString "length") = some (.int ((n : Nat) : Int) tl)) (hmd : 0 < md) (h6 : (L + 2, o6) ∈ news) (d6 : o6.data = .cell (some (.int md tm)))
    (next : ∀ D' h' tk k ys x, Fr h₀ L h' (fun z => if z = Str.ofString "first" then some (.ref D') else m z) → News h₀ L h' ((D', W.listOf ys.toArray k) :: x :: news) → IntsAre ys ((nl.take n).map (· % md)) → LawAt w L fa cd 9 Q { s with heap := h', toks := tk }) :
    LawAt w L fa cd 8 Q s := by
  refine law_any rfl ?_
  refine compA_list (h₀ := h₀) (m := m) (its := (slicePick ws.toArray none (some ((n : Nat) : Int)) none).toList) (fun v y => ∀ n t, v = .int n t → ∃ t', y = .int (n % md) t') rfl ?hiter ?hsz (by with_unfolding_all rfl) (by with_unfolding_all rfl) (by decide) rfl (by decide) rfl rfl rfl (by intro _; with_unfolding_all rfl)
  case hsz =>
    have h1 := slicePick_size_le ws.toArray none (some ((n : Nat) : Int)) none
    have h2 := hI.length
    rw [sizeLine_eq, Array.length_toList]
    simp only [List.size_toArray] at h1
    omega
  case hiter =>
    refine Subscript_ (law_loc F hm ?_)
    refine wpAny_Slice ?_
    rw [evalPart_none, evalPart_some]
    refine wpAny_pure (law_loc F hml (wpAny_pure ?_))
    have hi2 := kmk_upto hI (y := ((n : Nat) : Int)) (by omega)
    refine kmk_slice (lo := none) (hi := some ((n : Nat) : Int)) F N (PySem.IsL.isList (N _ hD).1) .none (.int _ _) ?_ (by with_unfolding_all rfl) (by intro _; with_unfolding_all rfl) ?hz
    case hz =>
      have h2 := hI.length
      rw [sizeLine_eq, List.size_toArray]; omega
    intro D2 h2 F2 N2 _
    refine ⟨D2, _, h2, _, rfl, rfl, F2, N2, by rw [Array.toArray_toList]; exact PySem.IsL.isList (N2 _ (.head _)).1, elt_mod hi2 hmd (.tail _ h6) d6 (fun _ => rfl) (fun _ => rfl) (fun _ => rfl) (fun _ => rfl) (by decide), ?_⟩
    intro D3 h3 tk3 k3 ys F3 N3 hp
    refine ⟨rfl, next D3 h3 tk3 k3 ys _ F3 N3 ?_⟩
    have hy := ints_of_paired (g := (· % md)) (fun v y n t e h => h n t e) hi2 hp
    rw [Int.toNat_natCast] at hy
    exact hy
theorem law9 {D : Addr} {ws : List Value} {nl : List Int} {n : Nat} {tl : Tok} {o6 : Obj} {md : Int} {tm : Tok} {c : Nat} (F : Fr h₀ L s.heap m) (N : News h₀ L s.heap news)
    (hm : m (Str.ofString "numbers") = some (.ref D)) (hD : (D, W.listOf ws.toArray c) ∈ news) (hI : IntsAre ws nl) (hl16 : nl.length = 16) (hn8 : n ≤ 8) (hml : m (Str.ofString "length") = some (.int ((n : Nat) : Int) tl)) (hmd : 0 < md) (h6 : (L + 2, o6) ∈ news) (d6 : o6.data = .cell (some (.int md tm)))
    (next : ∀ D' h' tk k ys x, Fr h₀ L h' (fun z => if z = Str.ofString "second" then some (.ref D') else m z) → News h₀ L h' ((D', W.listOf ys.toArray k) :: x :: news) → IntsAre ys (((nl.drop 8).take n).map (· % md)) → LawAt w L fa cd 10 Q { s with heap := h', toks := tk }) :
    LawAt w L fa cd 9 Q s := by
  refine law_any rfl ?_
  refine compA_list (h₀ := h₀) (m := m) (its := (slicePick ws.toArray (some 8) (some (8 + ((n : Nat) : Int))) none).toList) (fun v y => ∀ n t, v = .int n t → ∃ t', y = .int (n % md) t') rfl ?hiter ?hsz (by with_unfolding_all rfl) (by with_unfolding_all rfl) (by decide) rfl (by decide) rfl rfl rfl (by intro _; with_unfolding_all rfl)
  case hsz =>
    have h1 := slicePick_size_le ws.toArray (some 8) (some (8 + ((n : Nat) : Int))) none
    have h2 := hI.length
    rw [sizeLine_eq, Array.length_toList]
    simp only [List.size_toArray] at h1
    omega
  case hiter =>
    refine Subscript_ (law_loc F hm ?_)
    refine wpAny_Slice ?_
    rw [evalPart_none, evalPart_some, evalPart_some]
    refine wpAny_Constant_int ?_
    refine (evh_add evh_const (evh_name F.ns hml)) _ _ rfl fun t k => wpAny_pure ?_
    have hi2 := kmk_run hI (x := 8) (y := 8 + ((n : Nat) : Int)) (by omega) (by omega)
    refine kmk_slice (s := { s with toks := k }) (lo := some 8) (hi := some (8 + ((n : Nat) : Int))) F N (PySem.IsL.isList (N _ hD).1) (.int _ _) (.int _ _) ?_ (by with_unfolding_all rfl) (by intro _; with_unfolding_all rfl) ?hz
    case hz =>
      have h2 := hI.length
      rw [sizeLine_eq, List.size_toArray]; omega
    intro D2 h2 F2 N2 _
    refine ⟨D2, _, h2, _, rfl, rfl, F2, N2, by rw [Array.toArray_toList]; exact PySem.IsL.isList (N2 _ (.head _)).1, elt_mod hi2 hmd (.tail _ h6) d6 (fun _ => rfl) (fun _ => rfl) (fun _ => rfl) (fun _ => rfl) (by decide), ?_⟩
    intro D3 h3 tk3 k3 ys F3 N3 hp
    refine ⟨rfl, next D3 h3 tk3 k3 ys _ F3 N3 ?_⟩
    have hy := ints_of_paired (g := (· % md)) (fun v y n t e h => h n t e) hi2 hp
    have e1 : min (8 + ((n : Nat) : Int)).toNat nl.length - (8 : Int).toNat = n := by
      have : (8 + ((n : Nat) : Int)).toNat = 8 + n := by omega
      have e8 : (8 : Int).toNat = 8 := rfl
      omega
    rw [e1] at hy
    exact hy
end
end Mine
end PartT7
-- part T8
section PartT8
open PySem PySem.W PyProof.Rows PySem.Spec PySem.Calls
set_option maxRecDepth 100000
set_option maxHeartbeats 4000000
namespace Mine
set_option linter.unusedVariables false
theorem TabsIn.mono {news news' : List (Addr × Obj)} {O : Addr} {d : Nat → Tab} (h : TabsIn news O d) (hs : ∀ p ∈ news, p ∈ news') : TabsIn news' O d := fun p hp => hs p (h p hp)
section
variable {w : World} {L fa : Addr} {cd : Value} {h₀ : Heap} {m : Str → Option Value} {s : Shared} {Q : Flow → Shared → Prop} {mean : ExcName → Option Value} {mg mb : Str → Option Value} {news : List (Addr × Obj)}
theorem TabsIn.list {h : Heap} {O : Addr} {d : Nat → Tab} (ht : TabsIn news O d) (N : News h₀ L h news) : h.IsList O #[.ref (d 0).T, .ref (d 1).T, .ref (d 2).T] := PySem.IsL.isList (N _ (ht _ (.head _))).1
theorem TabsIn.at {h : Heap} {O : Addr} {d : Nat → Tab} (ht : TabsIn news O d) (N : News h₀ L h news) {k : Nat} (hk : k < 3) : (d k).At h := by
  refine Tab.at_of N fun p hp => ht p (.tail _ ?_)
  rcases k with _ | _ | _ | k
  · exact List.mem_append.mpr (.inl hp)
  · exact List.mem_append.mpr (.inr (List.mem_append.mpr (.inl hp)))
  · exact List.mem_append.mpr (.inr (List.mem_append.mpr (.inr hp)))
  · omega
/-- the element tab[kind], tab a cell of the law's -/
theorem elt_item {cl : List (Str × Addr)} {scope : Scope} {x y : Str} {its : List Value} {ks : List Nat} {c O : Addr} {o : Obj} {d : Nat → Tab} {p1 p2 p3 : Pos} (hI : IntsAre its (ks.map fun k : Nat => (k : Int))) (hks : ∀ k ∈ ks, k < 3) (hc' : (c, o) ∈ news) (dc : o.data = .cell (some (.ref O))) (ht : TabsIn news O d)
    (hc : ∀ C, (compEnvC scope cl C (lawEnv L fa cd)).cells.lookup y = some c) (hk : ∀ C, (compEnvC scope cl C (lawEnv L fa cd)).scope.kind = .function)
    (hx : ∀ C, (compEnvC scope cl C (lawEnv L fa cd)).kindOf x = some .local) (hxm : ∀ C, (compEnvC scope cl C (lawEnv L fa cd)).kindOf y = some .cell) (hd : (x == ("__debug__" : Str)) = false) (hdy : (y == ("__debug__" : Str)) = false) :
    EltOk PySem.Challenge.rw_ny0004_01.row.prog w (lawA L fa cd) (lawEnv L fa cd) h₀ m news scope cl x (.Subscript (.Name y p1) (.Name x p2) p3) (fun v => v ∈ its) (fun v z => ∀ (k : Nat) t, v = .int (k : Int) t → z = .ref (d k).T) := by
  intro C v s₃ m₃ E' hv hns hm F₃ N₃
  obtain ⟨k, t, hk', rfl⟩ := ints_mem hI hv
  have hk3 := hks k hk'
  refine Subscript_ (wpAny_Name (wpAny_loadName_cell (hk C) (hxm C) (hc C) ⟨o, (N₃ _ hc').1, dc⟩ ?_) hdy)
  refine wpAny_Name (wpAny_loadName_local (hk C) (hx C) hns hm ?_) hd
  refine item_litK (vs := [.ref (d 0).T, .ref (d 1).T, .ref (d 2).T]) (ht.list N₃) (by omega) (by omega) (v := .ref (d k).T) ?_ ⟨?_, _, _, rfl, fun _ _ e => e⟩
  · rw [Int.toNat_natCast]
    rcases k with _ | _ | _ | k
    · rfl
    · rfl
    · rfl
    · omega
  · intro k' t' e
    have e1 : ((k : Nat) : Int) = (k' : Int) := by injection e
    have : k = k' := by omega
    rw [this]
theorem law10 {Dk O : Addr} {ks : List Nat} {kv : List Value} {c : Nat} {o3 : Obj} {d : Nat → Tab} (F : Fr h₀ L s.heap m) (N : News h₀ L s.heap news)
    (hm : m (Str.ofString "kinds") = some (.ref Dk)) (hD : (Dk, W.listOf kv.toArray c) ∈ news) (hI : IntsAre kv (ks.map fun k : Nat => (k : Int))) (hks : ∀ k ∈ ks, k < 3) (hk3 : ks.length ≤ 3) (h3 : (L + 3, o3) ∈ news) (d3 : o3.data = .cell (some (.ref O))) (ht : TabsIn news O d)
    (next : ∀ D' h' tk k, Fr h₀ L h' (fun z => if z = Str.ofString "tables" then some (.ref D') else m z) → News h₀ L h' ((D', W.listOf (ks.map fun k => Value.ref (d k).T).toArray k) :: news) → LawAt w L fa cd 11 Q { s with heap := h', toks := tk }) :
    LawAt w L fa cd 10 Q s := by
  refine law_any rfl ?_
  refine compA_list (h₀ := h₀) (m := m) (its := kv) (fun v z => ∀ (k : Nat) t, v = .int (k : Int) t → z = .ref (d k).T) rfl ?hiter ?hsz (by with_unfolding_all rfl) (by with_unfolding_all rfl) (by decide) rfl (by decide) rfl rfl rfl (by intro _; with_unfolding_all rfl)
  case hsz => rw [sizeLine_eq, hI.length, List.length_map]; omega
  case hiter =>
    refine law_loc F hm ?_
    refine ⟨Dk, news, s.heap, s.toks, rfl, rfl, F, N, PySem.IsL.isList (N _ hD).1, elt_item hI hks h3 d3 ht (fun _ => rfl) (fun _ => rfl) (fun _ => rfl) (fun _ => rfl) (by decide) (by decide), ?_⟩
    intro D3 h3 tk3 k3 ys F3 N3 hp
    have hy := refs_of_paired (g := fun k => .ref (d k).T) (fun v y n t e h => h n t e) hI hp
    subst hy
    exact ⟨rfl, next D3 h3 tk3 k3 F3 N3⟩
end
end Mine
end PartT8
-- part T9
section PartT9
open PySem PySem.W PyProof.Rows PySem.Spec PySem.Calls
set_option maxRecDepth 100000
set_option maxHeartbeats 4000000
namespace Mine
set_option linter.unusedVariables false
theorem news_ret {h₀ h h' : Heap} {L r : Addr} {o : Obj} {m : Str → Option Value} {news : List (Addr × Obj)} (F : Fr h₀ L h m) (N : News h₀ L h news) (hg : h'.get? r = some o) (hn : h.get? r = none) (kp : ∀ b o, h.get? b = some o → h'.get? b = some o) : News h₀ L h' ((r, o) :: news) := fun p hp => by
  rcases List.mem_cons.mp hp with rfl | hp
  · refine ⟨hg, fun e => ?_, ?_⟩
    · obtain ⟨o', _, _, ho, _⟩ := F.ns
      rw [show r = L from e, ho] at hn
      cases hn
    · cases q : h₀.get? r with
      | none => rfl
      | some o' => rw [F.keep _ _ q] at hn; cases hn
  · exact N.grown kp p hp
section
variable {w : World} {L fa : Addr} {cd : Value} {h₀ : Heap} {m : Str → Option Value} {s : Shared} {Q : Flow → Shared → Prop} {mean : ExcName → Option Value} {mg mb : Str → Option Value} {news : List (Addr × Obj)}
theorem all_law {row tabs O : Addr} {vs : List Value} {ns : List Int} {ks : List Nat} {d : Nat → Tab} {co : Nat → Co} {md : Int} {u2 : Tok} {c1 c2 : Nat} {Q : Value → Shared → Prop} (X : (Mine.hd.heap_39 w.params).In h₀) (T : Top hd.view_39 (looseW hd.view_39 []) mean mg mb h₀) (F : Fr h₀ L s.heap m) (N : News h₀ L s.heap news)
    (hrow : (row, W.listOf vs.toArray c1) ∈ news) (hints : IntsAre vs ns) (hin : KBa.In ns) (hlen : ns.length = 2 ^ ks.length) (hk0 : 0 < ks.length) (hk3 : ks.length ≤ 3) (hks : ∀ k ∈ ks, k < 3)
    (htabs : (tabs, W.listOf (ks.map fun k => Value.ref (d k).T).toArray c2) ∈ news) (ht : TabsIn news O d) (hco : ∀ k, k < 3 → (d k).co = co k) (hok : ∀ k, k < 3 → (co k).Ok) (hmd : 0 < md) (hmd2 : md ≤ 256)
    (hQ : ∀ r vs' n h' tk', Fr h₀ L h' m → News h₀ L h' ((r, W.listOf vs'.toArray n) :: news) → IntsAre vs' (allL md (ks.map co) ns ks.length) → Q (.ref r) { s with heap := h', toks := tk' }) :
    wpC (lawM w) (lawA L fa cd) (call (.ref 56) [.ref row, .ref tabs, .int md u2]) Q s := by
  have eco : (ks.map d).map (·.co) = ks.map co := by
    rw [List.map_map]
    exact List.map_congr_left fun k hk => hco k (hks k hk)
  have el : (ks.map d).length = ks.length := List.length_map ..
  show wpC (lawM w) (ktrTop _ _ _ (Str.ofString "law") lawScope L fa cd _ []) _ _ _
  refine all_C (ds := ks.map d) X (below_caller h₀) F T rfl (PySem.IsL.isList (N _ hrow).1) hints hin (by rw [el]; exact hlen) (by rw [el]; exact hk0) (by rw [el]; exact hk3) ?htabs ?hat ?hok hmd hmd2 (by decide +kernel) ?hret
  case htabs =>
    rw [List.map_map]
    exact PySem.IsL.isList (N _ htabs).1
  case hat =>
    intro t htm
    obtain ⟨k, hk, rfl⟩ := List.mem_map.mp htm
    exact ht.at N (hks k hk)
  case hok =>
    intro t htm
    obtain ⟨k, hk, rfl⟩ := List.mem_map.mp htm
    rw [hco k (hks k hk)]
    exact hok k (hks k hk)
  case hret =>
    intro r vs' n h' tk' hg hn hI kp
    rw [eco, el] at hI
    exact hQ r vs' n h' tk' (F.keptAll kp) (news_ret F N hg hn kp) hI
theorem law_cellname {A : Around} {E : Value → Shared → Prop} {x : Str} {pos : Pos} {c : Addr} {o : Obj} {v : Value} {Q : Value → Shared → Prop} (N : News h₀ L s.heap news) (hm : (c, o) ∈ news) (hd : o.data = .cell (some v)) (h : Q v s)
    (hc : (lawEnv L fa cd).cells.lookup x = some c := by rfl) (hx : (lawEnv L fa cd).kindOf x = some .cell := by rfl) (hb : (x == ("__debug__" : Str)) = false := by decide) :
    wpAny (lawM w) A (eval (.Name x pos) (lawEnv L fa cd)) Q E s := wpAny_Name (wpAny_loadName_cell rfl hx hc ⟨o, (N _ hm).1, hd⟩ h) hb
theorem law11 {Df Ds Dt O : Addr} {fv sv : List Value} {fs ss : List Int} {ks : List Nat} {d : Nat → Tab} {md : Int} {tm : Tok} {c1 c2 c3 : Nat} {o6 : Obj} (X : (Mine.hd.heap_39 w.params).In h₀) (T : Top hd.view_39 (looseW hd.view_39 []) mean mg mb h₀) (F : Fr h₀ L s.heap m) (N : News h₀ L s.heap news)
    (hmf : m (Str.ofString "first") = some (.ref Df)) (hms : m (Str.ofString "second") = some (.ref Ds)) (hmt : m (Str.ofString "tables") = some (.ref Dt)) (h6 : (L + 2, o6) ∈ news) (d6 : o6.data = .cell (some (.int md tm)))
    (hf : (Df, W.listOf fv.toArray c1) ∈ news) (hfI : IntsAre fv fs) (hfin : KBa.In fs) (hfl : fs.length = 2 ^ ks.length) (hs : (Ds, W.listOf sv.toArray c2) ∈ news) (hsI : IntsAre sv ss) (hsin : KBa.In ss) (hsl : ss.length = 2 ^ ks.length)
    (hk0 : 0 < ks.length) (hk3 : ks.length ≤ 3) (hks : ∀ k ∈ ks, k < 3)
    (htabs : (Dt, W.listOf (ks.map fun k => Value.ref (d k).T).toArray c3) ∈ news) (ht : TabsIn news O d) (hco : ∀ k, k < 3 → (d k).co = overCo k) (hmd : 0 < md) (hmd2 : md ≤ 256)
    (next : ∀ a b av bv n1 n2 h' tk' x, Fr h₀ L h' (fun z => if z = Str.ofString "ahead" then some (.ref a) else if z = Str.ofString "behind" then some (.ref b) else m z) → News h₀ L h' (x :: (b, W.listOf bv.toArray n2) :: (a, W.listOf av.toArray n1) :: news) →
      IntsAre av (allL md (ks.map overCo) fs ks.length) → IntsAre bv (allL md (ks.map overCo) ss ks.length) → LawAt w L fa cd 12 Q { s with heap := h', toks := tk' }) :
    LawAt w L fa cd 11 Q s := by
  have kf : (Mine.hd.heap_39 w.params).In h₀ → PySem.Challenge.rw_ny0004_01 = PySem.Challenge.rw_ny0004_01 := by
    k_fill
    exact fun _ => rfl
  have hok : ∀ k, k < 3 → (overCo k).Ok := by
    intro k hk
    rcases k with _ | _ | _ | k
    · exact ⟨by decide, by decide, by decide, by decide⟩
    · exact ⟨by decide, by decide, by decide, by decide⟩
    · exact ⟨by decide, by decide, by decide, by decide⟩
    · omega
  have hfn : ∀ {h' : Heap}, (∀ b o, h₀.get? b = some o → h'.get? b = some o) → IsFn h' 56 := fun kp => fn_at X kp (by k_is)
  refine law_C rfl ?_
  refine Assign_Tuple_C (names := [Str.ofString "ahead", Str.ofString "behind"]) ?_ (by with_unfolding_all rfl) (by with_unfolding_all rfl)
  refine Tuple_C (items_cons_C (Call_Name_C ?_))
  refine law_glob (v := .ref 56) F X T ?hnsa ?_
  case hnsa => k_is
  refine CallF_C (items_cons_C (wpC_any (law_loc F hmf (items_cons_C (wpC_any (law_loc F hmt (items_cons_C (wpC_any (law_cellname N h6 d6 (items_nil_C ⟨hfn F.keep, ?_⟩))))))))))
  refine all_law X T F N hf hfI hfin hfl hk0 hk3 hks htabs ht hco hok hmd hmd2 ?_
  intro a av n1 h1 tk1 F1 N1 hI1
  refine items_cons_C (Call_Name_C ?_)
  refine law_glob (v := .ref 56) F1 X T ?hnsb ?_
  case hnsb => k_is
  refine CallF_C (items_cons_C (wpC_any (law_loc F1 hms (items_cons_C (wpC_any (law_loc F1 hmt (items_cons_C (wpC_any (law_cellname N1 (.tail _ h6) d6 (items_nil_C ⟨hfn F1.keep, ?_⟩))))))))))
  refine all_law X T F1 N1 (.tail _ hs) hsI hsin hsl hk0 hk3 hks (.tail _ htabs) (ht.mono fun p hp => .tail _ hp) hco hok hmd hmd2 ?_
  intro b bv n2 h2 tk2 F2 N2 hI2
  refine items_nil_C ⟨by rw [sizeLine_eq]; show 2 ≤ _; decide, ?_⟩
  have up : ∀ b' o, h2.get? b' = some o → (h2.push { cls := .type "tuple", data := .seq [.ref a, .ref b].toArray }).get? b' = some o := fun _ _ e => Heap.get?_push_of_some _ e
  have F3 := F2.keptAll up
  have N3 : News h₀ L _ ((h2.objs.size, { cls := .type "tuple", data := .seq [.ref a, .ref b].toArray }) :: (b, W.listOf bv.toArray n2) :: (a, W.listOf av.toArray n1) :: news) := news_ret F2 N2 (Heap.get?_push_size _ rfl) (Heap.get?_none_of_le (Nat.le_refl _)) up
  refine unpackItemsN_ F3 N3 ⟨_, Heap.get?_push_size _ rfl, rfl, _, rfl⟩ rfl rfl ?_
  intro h4 F4 N4
  show wpAny _ _ (assignInOrder [bindName (lawEnv L fa cd) (Str.ofString "behind"), bindName (lawEnv L fa cd) (Str.ofString "ahead")] [.ref b, .ref a]) _ _ _
  refine assignInOrder_cons (wpAny_bindName (law_store F4 N4 fun h5 F5 N5 => assignInOrder_cons (wpAny_bindName (law_store F5 N5 fun h6' F6 N6 => assignInOrder_nil ?_))))
  exact .inl ⟨rfl, next a b av bv n1 n2 h6' _ _ F6 N6 hI1 hI2⟩
end
end Mine
end PartT9
-- part TA
section PartTA
open PySem PySem.W PyProof.Rows PySem.Spec PySem.Calls
set_option maxRecDepth 100000
set_option maxHeartbeats 4000000
namespace Mine
set_option linter.unusedVariables false
section
variable {w : World} {L fa : Addr} {cd : Value} {h₀ : Heap} {m : Str → Option Value} {s : Shared} {Q : Flow → Shared → Prop} {mean : ExcName → Option Value} {mg mb : Str → Option Value} {news : List (Addr × Obj)}
theorem comp_glob {K : Frag} {p : Program} {loose : List Str} {A : Around} {E : Value → Shared → Prop} {scope : Scope} {cl : List (Str × Addr)} {C : Addr} {x : Str} {pos : Pos} {v : Value} {Q : Value → Shared → Prop} (F : Fr h₀ L s.heap m) (X : K.In h₀) (T : Top p loose mean mg mb h₀) (e : nsIn K mainGlobals x = some (some v)) (h : Q v s)
    (hk : (compEnvC scope cl C (lawEnv L fa cd)).scope.kind = .function) (hx : (compEnvC scope cl C (lawEnv L fa cd)).kindOf x = some .globalImplicit) (hd : (x == ("__debug__" : Str)) = false) :
    wpAny (lawM w) A (eval (.Name x pos) (compEnvC scope cl C (lawEnv L fa cd))) Q E s :=
  Name_function_global hk hx (loadGlobal_global (env := compEnvC scope cl C (lawEnv L fa cd)) (show s.heap.Ns mainGlobals mg from (T.keeps F.keep).g) (mg_of X T.g e) h) hd
theorem law13 {Df Ds Dk : Addr} {fv sv kv : List Value} {fs ss : List Int} {ks : List Nat} {md : Int} {tm : Tok} {c1 c2 c3 : Nat} {o6 : Obj} (X : (Mine.hd.heap_39 w.params).In h₀) (T : Top hd.view_39 (looseW hd.view_39 []) mean mg mb h₀) (F : Fr h₀ L s.heap m) (N : News h₀ L s.heap news)
    (hmf : m (Str.ofString "first") = some (.ref Df)) (hms : m (Str.ofString "second") = some (.ref Ds)) (hmk : m (Str.ofString "kinds") = some (.ref Dk)) (h6 : (L + 2, o6) ∈ news) (d6 : o6.data = .cell (some (.int md tm)))
    (hf : (Df, W.listOf fv.toArray c1) ∈ news) (hfI : IntsAre fv fs) (hfin : KBa.In fs) (hfl : fs.length = 2 ^ ks.length) (hs : (Ds, W.listOf sv.toArray c2) ∈ news) (hsI : IntsAre sv ss) (hsin : KBa.In ss) (hsl : ss.length = 2 ^ ks.length)
    (hD : (Dk, W.listOf kv.toArray c3) ∈ news) (hI : IntsAre kv (ks.map fun k : Nat => (k : Int))) (hk3 : ks.length ≤ 3) (hks : ∀ k ∈ ks, k < 3) (hmd : 0 < md) (hmd2 : md ≤ 256)
    (next : ∀ r rv n h' tk' x, Fr h₀ L h' (fun z => if z = Str.ofString "due" then some (.ref r) else m z) → News h₀ L h' ((r, W.listOf rv.toArray n) :: x :: news) → IntsAre rv (joinOut fs ss ks md (2 ^ ks.length) (2 ^ ks.length)) → LawAt w L fa cd 14 Q { s with heap := h', toks := tk' }) :
    LawAt w L fa cd 13 Q s := by
  have kf : (Mine.hd.heap_39 w.params).In h₀ → PySem.Challenge.rw_ny0004_01 = PySem.Challenge.rw_ny0004_01 := by
    k_fill
    exact fun _ => rfl
  have hfn : ∀ {h' : Heap}, (∀ b o, h₀.get? b = some o → h'.get? b = some o) → IsFn h' 70 := fun kp => fn_at X kp (by k_is)
  refine law_C rfl ?_
  refine Assign_Name_C ?_ (by with_unfolding_all rfl)
  refine Call_Name_C ?_
  refine law_glob (v := .ref 70) F X T ?hnsa ?_
  case hnsa => k_is
  refine CallF_C (items_cons_C (wpC_any (law_loc F hmf (items_cons_C (wpC_any (law_loc F hms (items_cons_C (wpC_any ?_))))))))
  refine compE_list (h₀ := h₀) (m := m) (its := kv) (fun v z => ∀ (k : Nat) t, v = .int (k : Int) t → z = .ref (opAddr k)) rfl ?hiter ?hsz (by with_unfolding_all rfl) (by decide) rfl (by decide) rfl (by intro _; with_unfolding_all rfl)
  case hsz => rw [sizeLine_eq, hI.length, List.length_map]; omega
  case hiter =>
    refine law_loc F hmk ?_
    refine ⟨Dk, news, s.heap, s.toks, rfl, rfl, F, N, PySem.IsL.isList (N _ hD).1, ?elt, ?_⟩
    case elt =>
      intro C v s₃ m₃ E' hv hns hm F₃ N₃
      obtain ⟨k, t, hk', rfl⟩ := ints_mem hI hv
      have hk3' := hks k hk'
      refine Subscript_ (List_new ?_)
      refine wpAny_items_cons ?_
      refine comp_glob (v := .ref 35) F₃ X T ?hn1 ?_ rfl rfl (by decide)
      case hn1 => k_is
      refine wpAny_items_cons ?_
      refine comp_glob (v := .ref 28) F₃ X T ?hn2 ?_ rfl rfl (by decide)
      case hn2 => k_is
      refine wpAny_items_cons ?_
      refine comp_glob (v := .ref 42) F₃ X T ?hn3 ?_ rfl rfl (by decide)
      case hn3 => k_is
      refine wpAny_items_nil ?_
      refine wpAny_newList ?_ (by rw [sizeLine_eq]; show 3 ≤ _; decide)
      have up : ∀ b o, s₃.heap.get? b = some o → (s₃.heap.push { cls := .type "list", data := .seq [Value.ref 35, .ref 28, .ref 42].toArray }).get? b = some o := fun _ _ e => Heap.get?_push_of_some _ e
      refine wpAny_Name (wpAny_loadName_local rfl rfl (hns.keeps up) hm ?_) (by decide)
      refine item_litK (vs := [.ref 35, .ref 28, .ref 42]) ⟨_, Heap.get?_push_size _ rfl, rfl, _, rfl⟩ (by omega) (by omega) (v := .ref (opAddr k)) ?_ ⟨?_, _, _, rfl, up⟩
      · rw [Int.toNat_natCast]
        rcases k with _ | _ | _ | k
        · rfl
        · rfl
        · rfl
        · omega
      · intro k' t' e
        have e1 : ((k : Nat) : Int) = (k' : Int) := by injection e
        have : k = k' := by omega
        rw [this]
    intro D2 h2 tk2 n2 ys F2 N2 hp
    have hy := refs_of_paired (g := fun k => .ref (opAddr k)) (fun v y n t e h => h n t e) hI hp
    subst hy
    refine items_cons_C (wpC_any (law_cellname N2 (.tail _ h6) d6 (items_nil_C ⟨hfn F2.keep, wpC_any ?_⟩)))
    show wpAny (lawM w) (ktrTop _ _ _ (Str.ofString "law") lawScope L fa cd _ []) _ _ _ _
    refine joined_A X (below_caller h₀) F2 T rfl (PySem.IsL.isList (N2 _ (.tail _ hf)).1) hfI hfin (PySem.IsL.isList (N2 _ (.tail _ hs)).1) hsI hsin (PySem.IsL.isList (N2 _ (.head _)).1) hks hk3 hfl hsl hmd hmd2 (by decide +kernel) ?_
    intro r rv n h' tk' hg hn hI' kp
    refine law_store (F2.keptAll kp) (news_ret F2 N2 hg hn kp) fun h5 F5 N5 => .inl ⟨rfl, next r rv n h5 _ _ F5 N5 hI'⟩
theorem law14 {Dp Dk Dd B : Addr} {pv kv rv : List Value} {ps ms : List Int} {ks : List Nat} {b : Nat → Tab} {md hf : Int} {tm : Tok} {c1 c2 c3 : Nat} {o6 o4 : Obj} (X : (Mine.hd.heap_39 w.params).In h₀) (T : Top hd.view_39 (looseW hd.view_39 []) mean mg mb h₀) (F : Fr h₀ L s.heap m) (N : News h₀ L s.heap news)
    (hmp : m (Str.ofString "products") = some (.ref Dp)) (hmk : m (Str.ofString "kinds") = some (.ref Dk)) (hmd' : m (Str.ofString "due") = some (.ref Dd)) (h6 : (L + 2, o6) ∈ news) (d6 : o6.data = .cell (some (.int md tm))) (h4 : (L + 4, o4) ∈ news) (d4 : o4.data = .cell (some (.ref B)))
    (hp : (Dp, W.listOf pv.toArray c1) ∈ news) (hpI : IntsAre pv ps) (hpin : KBa.In ps) (hpl : ps.length = 2 ^ ks.length) (hd : (Dd, W.listOf rv.toArray c2) ∈ news) (hdI : IntsAre rv ms)
    (hD : (Dk, W.listOf kv.toArray c3) ∈ news) (hI : IntsAre kv (ks.map fun k : Nat => (k : Int))) (hk0 : 0 < ks.length) (hk3 : ks.length ≤ 3) (hks : ∀ k ∈ ks, k < 3) (ht : TabsIn news B b) (hco : ∀ k, k < 3 → (b k).co = backCo hf k) (hhf : 0 ≤ hf ∧ hf ≤ 1000) (hmd : 0 < md) (hmd2 : md ≤ 256)
    (heq : allL md (ks.map (backCo hf)) ps ks.length = ms)
    (hret : ∀ h' tk', (∀ b o, h₀.get? b = some o → h'.get? b = some o) → Q (.ret (.bool true)) { s with heap := h', toks := tk' }) :
    LawAt w L fa cd 14 Q s := by
  have kf : (Mine.hd.heap_39 w.params).In h₀ → PySem.Challenge.rw_ny0004_01 = PySem.Challenge.rw_ny0004_01 := by
    k_fill
    exact fun _ => rfl
  have hfn : ∀ {h' : Heap}, (∀ b o, h₀.get? b = some o → h'.get? b = some o) → IsFn h' 56 := fun kp => fn_at X kp (by k_is)
  have hok : ∀ k, k < 3 → (backCo hf k).Ok := by
    intro k hk
    rcases k with _ | _ | _ | k
    · exact ⟨⟨by show (-1000 : Int) ≤ 1; decide, by show (1 : Int) ≤ 1000; decide⟩, ⟨by show (-1000 : Int) ≤ 0; decide, by show (0 : Int) ≤ 1000; decide⟩, ⟨by show (-1000 : Int) ≤ -1; decide, by show (-1 : Int) ≤ 1000; decide⟩, ⟨by show (-1000 : Int) ≤ 1; decide, by show (1 : Int) ≤ 1000; decide⟩⟩
    · exact ⟨⟨by show (-1000 : Int) ≤ 1; decide, by show (1 : Int) ≤ 1000; decide⟩, ⟨by show (-1000 : Int) ≤ -1; decide, by show (-1 : Int) ≤ 1000; decide⟩, ⟨by show (-1000 : Int) ≤ 0; decide, by show (0 : Int) ≤ 1000; decide⟩, ⟨by show (-1000 : Int) ≤ 1; decide, by show (1 : Int) ≤ 1000; decide⟩⟩
    · refine ⟨⟨?_, ?_⟩, ⟨?_, ?_⟩, ⟨?_, ?_⟩, ⟨?_, ?_⟩⟩ <;> simp only [backCo] <;> omega
    · omega
  refine law_C rfl ?_
  refine Return_C (Compare1_C ?_ (by with_unfolding_all rfl))
  refine Call_Name_C ?_
  refine law_glob (v := .ref 56) F X T ?hnsa ?_
  case hnsa => k_is
  refine CallF_C (items_cons_C (wpC_any (law_loc F hmp (items_cons_C (wpC_any ?_)))))
  refine compE_list (h₀ := h₀) (m := m) (its := kv) (fun v z => ∀ (k : Nat) t, v = .int (k : Int) t → z = .ref (b k).T) rfl ?hiter ?hsz (by with_unfolding_all rfl) (by decide) rfl (by decide) rfl (by intro _; with_unfolding_all rfl)
  case hsz => rw [sizeLine_eq, hI.length, List.length_map]; omega
  case hiter =>
    refine law_loc F hmk ?_
    refine ⟨Dk, news, s.heap, s.toks, rfl, rfl, F, N, PySem.IsL.isList (N _ hD).1, elt_item hI hks h4 d4 ht (fun _ => rfl) (fun _ => rfl) (fun _ => rfl) (fun _ => rfl) (by decide) (by decide), ?_⟩
    intro D2 h2 tk2 n2 ys F2 N2 hp2
    have hy := refs_of_paired (g := fun k => .ref (b k).T) (fun v y n t e h => h n t e) hI hp2
    subst hy
    refine items_cons_C (wpC_any (law_cellname N2 (.tail _ h6) d6 (items_nil_C ⟨hfn F2.keep, ?_⟩)))
    refine all_law X T F2 N2 (.tail _ hp) hpI hpin hpl hk0 hk3 hks (.head _) (ht.mono fun p hp => .tail _ hp) hco hok hmd hmd2 ?_
    intro r vr n3 h3 tk3 F3 N3 hI3
    refine law_loc F3 hmd' ?_
    refine eq_intsK (PySem.IsL.isList (N3 _ (.head _)).1) hI3 (PySem.IsL.isList (N3 _ (.tail _ (.tail _ hd))).1) hdI (of_decide_eq_true (by with_unfolding_all rfl)) ?_
    rw [heq, decide_eq_true rfl]
    exact .inr ⟨(by intro h; cases h), hret _ _ F3.keep⟩
end
end Mine
end PartTA
-- part TB
section PartTB
open PySem PySem.W PyProof.Rows PySem.Spec PySem.Calls PyProof.Rows.LCg
set_option maxRecDepth 100000
set_option maxHeartbeats 4000000
namespace Mine
set_option linter.unusedVariables false
section
variable {prog : Program} {w : World} {A : Around} {s : Shared}
theorem pair_loop {elt iter : Expr} {a b : Str} {pa pb tp pos : Pos} {kk : Nat} {scope : Scope} {cenv : Env} {I D : Addr} {fp wr : List Addr} {n : Nat} {Pt : Nat → Array Value → Prop} {St : Nat → Heap → Prop} {Mid : Nat → Addr → Heap → Prop} {R : Nat → Value → Prop} {RR : Result → Shared → Prop} {m : Str → Option Value}
    (W : WalksU prog w A I fp wr n Pt St Mid) (hPt : ∀ i vals, Pt i vals → ∃ x y, vals = #[x, y]) (hh : A.handled = none) (hsz : n ≤ sizeLine)
    (ha : cenv.kindOf a = some .local) (hb : cenv.kindOf b = some .local) (hp : (cenv.scope.kind == .class || (cenv.scope.kind == .module && cenv.locals != cenv.globals)) = false) (hab : a ≠ b)
    (hDC : D ≠ cenv.locals) (hDf : D ∉ fp) (hCf : cenv.locals ∉ fp) (hst : St 0 s.heap) (hacc : s.heap.get? D = some (lst [])) (hns : s.heap.Ns cenv.locals m)
    (helt : ∀ i x y s₃ m₃ (E' : Value → Shared → Prop), i < n → Pt i #[x, y] → s₃.heap.Ns cenv.locals m₃ → m₃ a = some x → m₃ b = some y → (∀ c o, c ≠ cenv.locals → c ∉ wr → c ≠ D → s.heap.get? c = some o → s₃.heap.get? c = some o) →
      wpAny (model prog w) A (eval elt cenv) (fun v s₄ => R i v ∧ Keeps s₃ s₄) E' s₃)
    (hRR : ∀ h' tk m' ys, h'.Ns cenv.locals m' → h'.get? D = some (lst ys) → ys.length = n → (∀ (j : Nat) v, ys[j]? = some v → R j v) → (∀ c o, c ≠ cenv.locals → c ∉ wr → c ≠ D → s.heap.get? c = some o → h'.get? c = some o) → RR (.ok .next) { s with heap := h', toks := tk }) :
    codeAny (model prog w) A (.compLoop (.ListComp elt [⟨.Tuple [.Name a pa, .Name b pb] kk tp, iter, [], 0⟩] scope pos) 0 (.ref I) (.ref D) cenv) RR s := by
  refine kcp_loop
    (fun k s' => ∃ h' tk i ys m', s' = { s with heap := h', toks := tk } ∧ i ≤ n ∧ k = n + 1 - i ∧ ys.length = i ∧ St i h' ∧ h'.Ns cenv.locals m' ∧ h'.get? D = some (lst ys) ∧ (∀ (j : Nat) v, ys[j]? = some v → R j v) ∧
      (∀ c o, c ≠ cenv.locals → c ∉ wr → c ≠ D → s.heap.get? c = some o → h'.get? c = some o)) ?_ (n + 1)
    ⟨s.heap, s.toks, 0, [], m, rfl, Nat.zero_le _, rfl, rfl, hst, hns, hacc, (fun j v h => by simp at h), fun _ _ _ _ _ e => e⟩
  rintro k s' ⟨H, tk, i, ys, m', rfl, hi, rfl, hyl, hst', hn', hD', hR', hk⟩
  have hDw : D ∉ wr := fun q => hDf (W.sub _ q)
  have hCw : cenv.locals ∉ wr := fun q => hCf (W.sub _ q)
  by_cases hlt : i < n
  · refine W.item i _ _ _ hlt hst' fun T vals h₁ tk₁ hPv hT hmid hk₁ => ?_
    obtain ⟨x, y, rfl⟩ := hPt _ _ hPv
    refine W.go _ _ _ i T _ _ _ hmid fun h₂ hst₂ hk₂ => ?_
    have hTw : T ∉ wr := W.apart _ _ _ hmid
    have hT₂ : h₂.IsTuple T #[x, y] := hT.at fun o e => hk₂ _ o hTw e
    have hn₂ : h₂.Ns cenv.locals m' := (hn'.at' fun o e => hk₁ _ o hCw e).at' fun o e => hk₂ _ o hCw e
    refine kcp_assign hh hT₂ ha hb hp hn₂ fun h₃ tk₃ hn₃ hk₃ => ?_
    have hst₃ : St (i + 1) h₃ := W.frame _ _ _ hst₂ fun c hc o e => hk₃ c o (fun q => hCf (q ▸ hc)) e
    have up : ∀ c o, c ≠ cenv.locals → c ∉ wr → H.get? c = some o → h₃.get? c = some o := fun c o h1 h2 e => hk₃ c o h1 (hk₂ c o h2 (hk₁ c o h2 e))
    refine wpAny_mono (helt i x y _ _ _ hlt hPv hn₃ (by simp [hab]) (by simp) fun c o h1 h2 h3 e => up c o h1 h2 (hk c o h1 h2 h3 e)) (fun v s₄ h₄ => ?_) fun _ _ e => e
    obtain ⟨hRv, h₄, tk₄, rfl, hk₄⟩ := h₄
    refine append_at (hsz := by show ys.toArray.size ≤ sizeLine; rw [List.size_toArray, hyl]; exact Nat.le_trans hi hsz) (hk₄ _ _ (up D _ hDC hDw hD')) fun h₅ hs₅ hD₅ => ?_
    refine ⟨n + 1 - (i + 1), by omega, h₅, tk₄, i + 1, ys ++ [v], _, rfl, hlt, rfl, by rw [List.length_append, List.length_singleton, hyl], W.frame _ _ _ hst₃ fun c hc o e => hs₅.extBut c o (fun q => hDf (q ▸ hc)) (hk₄ c o e),
      (hn₃.keeps hk₄).sameBut hs₅ (Ne.symm hDC), hD₅.trans (congrArg some (lst_snoc ys v)), ?_, fun c o h1 h2 h3 e => hs₅.extBut c o h3 (hk₄ c o (up c o h1 h2 (hk c o h1 h2 h3 e)))⟩
    intro j u hj
    by_cases hji : j < ys.length
    · rw [List.getElem?_append_left hji] at hj
      exact hR' j u hj
    · have hj' : j = ys.length := by
        have := (List.getElem?_eq_some_iff.mp hj).1
        rw [List.length_append, List.length_singleton] at this
        omega
      subst hj'
      rw [List.getElem?_append_right (Nat.le_refl _), Nat.sub_self] at hj
      cases hj
      rw [hyl]
      exact hRv
  · obtain rfl : i = n := Nat.le_antisymm hi (Nat.not_lt.mp hlt)
    refine W.done _ _ _ hst' fun h₂ tk₂ hk₂ => ?_
    exact hRR h₂ tk₂ m' ys (hn'.at' fun o e => hk₂ _ o hCw e) (hk₂ _ _ hDw hD') hyl hR' fun c o h1 h2 h3 e => hk₂ c o h2 (hk c o h1 h2 h3 e)
end
end Mine
end PartTB
-- part TC
section PartTC
open PySem PySem.W PyProof.Rows PySem.Spec PySem.Calls PyProof.Rows.LCg
set_option maxRecDepth 100000
set_option maxHeartbeats 4000000
namespace Mine
set_option linter.unusedVariables false
section
variable {prog : Program} {w : World} {A : Around} {E : Value → Shared → Prop} {s : Shared} {env : Env}
/-- y = [elt for a, b in iter] -/
theorem compA_pair {elt iter : Expr} {a b y : Str} {pa pb tp py : Pos} {kk : Nat} {scope : Scope} {cl : List (Str × Addr)} {pos spos : Pos} {Q : Flow → Shared → Prop} (R : Nat → Value → Prop) (hh : A.handled = none)
    (hsw : swapsWith (.ListComp elt [⟨.Tuple [.Name a pa, .Name b pb] kk tp, iter, [], 0⟩] scope pos) (some (.Name y py)) spos.line env = pure true)
    (hclos : closureFor scope env = pure cl) (hcell : ∀ z ∈ scope.names, z.2 ≠ .cell) (hkind : scope.kind = .function)
    (hnames : ∀ z ∈ scope.names, z.2 = .local → scope.names.lookup z.1 = some .local) (ha : scope.names.lookup a = some .local) (hb : scope.names.lookup b = some .local) (hab : a ≠ b)
    (hy : env.kindOf y = some .local) (hp : (env.scope.kind == .class || (env.scope.kind == .module && env.locals != env.globals)) = false)
    (h : wpAny (model prog w) A (eval iter env) (fun xv s₁ => wpAny (model prog w) A (pyIter xv) (fun it s₂ => ∃ I fp wr n Pt St Mid m, it = .ref I ∧ WalksU prog w A I fp wr n Pt St Mid ∧ (∀ i vals, Pt i vals → ∃ x y, vals = #[x, y]) ∧ n ≤ sizeLine ∧ St 0 s₂.heap ∧ (∀ b ∈ fp, b < s₂.heap.objs.size) ∧
      env.locals ∉ wr ∧ s₂.heap.Ns env.locals m ∧
      (∀ C i x y s₃ m₃ (E' : Value → Shared → Prop), i < n → Pt i #[x, y] → s₃.heap.Ns C m₃ → m₃ a = some x → m₃ b = some y → (∀ c o, c ∉ wr → s₂.heap.get? c = some o → s₃.heap.get? c = some o) →
        wpAny (model prog w) A (eval elt (compEnvC scope cl C env)) (fun v s₄ => R i v ∧ Keeps s₃ s₄) E' s₃) ∧
      (∀ D h' tk ys, s₂.heap.get? D = none → h'.get? D = some (lst ys) → ys.length = n → (∀ (j : Nat) v, ys[j]? = some v → R j v) → h'.Ns env.locals (fun z => if z = y then some (.ref D) else m z) →
        (∀ c o, c ≠ env.locals → c ∉ wr → s₂.heap.get? c = some o → h'.get? c = some o) → Q .next { s₂ with heap := h', toks := tk })) E s₁) E s)
    (hs : ∀ x, foldedSetIterable iter env x = pure x) :
    wpAny (model prog w) A (exec (.Assign [.Name y py] (.ListComp elt [⟨.Tuple [.Name a pa, .Name b pb] kk tp, iter, [], 0⟩] scope pos) spos) env) Q E s := by
  rw [exec_Assign_Name_used _ _ _ _ hsw]
  refine wpAny_bind (wpAny_standAt (wpAny_bind ?_))
  show wpAny _ A (do let _ ← comprehension (.ListComp elt [⟨.Tuple [.Name a pa, .Name b pb] kk tp, iter, [], 0⟩] scope pos) scope env _ (newList []) false (eval iter env) (some (assign (.Name y py) env))) _ _ s
  refine wpAny_bind (wpAny_mono (wpAny_comprehension_free (use := some (assign (.Name y py) env)) (Q := fun _ s' => Q .next s') rfl hs hclos hkind hnames
    (wpAny_mono h (fun xv s₁ h₁ => wpAny_mono h₁ (fun it s₂ h₂ => ?_) fun _ _ e => e) fun _ _ e => e)) (fun _ s' hq => wpAny_pure (wpAny_pure hq)) fun _ _ e => e)
  obtain ⟨I, fp, wr, n, Pt, St, Mid, m, rfl, W, hPt, hsz, hst, hfp, hLw, hn, helt, hQ⟩ := h₂
  refine wpAny_newObj_type (wpAny_newFunctionEnv hcell (by intro y hy; simp at hy) (fun h₁ hns₁ hsb₁ => ?_) hkind)
  dsimp only at hns₁ hsb₁ ⊢
  generalize hH2 : s₂.heap.push { cls := .type "list", dict := none, data := .seq ([] : List Value).toArray } = H2 at hns₁ hsb₁ ⊢
  have hC : H2.objs.size = s₂.heap.objs.size + 1 := by rw [← hH2, Heap.size_push]
  have hDC : s₂.heap.objs.size ≠ H2.objs.size := by rw [hC]; exact Nat.ne_of_lt (Nat.lt_succ_self _)
  have below : ∀ b, b < s₂.heap.objs.size → b ≠ H2.objs.size ∧ b ≠ s₂.heap.objs.size := fun b hb => ⟨by rw [hC]; exact Nat.ne_of_lt (Nat.lt_succ_of_lt hb), Nat.ne_of_lt hb⟩
  have hDf : s₂.heap.objs.size ∉ fp := fun hm => Nat.lt_irrefl _ (hfp _ hm)
  have hCf : H2.objs.size ∉ fp := fun hm => by have := hfp _ hm; rw [hC] at this; exact Nat.lt_irrefl _ (Nat.lt_of_succ_lt this)
  have old : ∀ b o, s₂.heap.get? b = some o → h₁.get? b = some o := fun b o e => hsb₁.extBut b o (below b (Heap.lt_size e)).1 (Heap.get?_push_of_some _ (hH2 ▸ Heap.get?_push_of_some _ e))
  have hacc : h₁.get? s₂.heap.objs.size = some (lst []) := hsb₁.extBut _ _ hDC (Heap.get?_push_of_some _ (hH2 ▸ Heap.get?_push_size _ rfl))
  have hst₁ : St 0 h₁ := W.frame _ _ _ hst fun b _ o e => old b o e
  have loop : ∀ s₃ : Shared, s₃ = { s₂ with heap := h₁, toks := s₂.toks + ([] : List (Str × Value)).length } →
      codeAny (model prog w) A (.compLoop (.ListComp elt [⟨.Tuple [.Name a pa, .Name b pb] kk tp, iter, [], 0⟩] scope pos) 0 (.ref I) (.ref s₂.heap.objs.size) (compEnvC scope cl H2.objs.size env))
        (compPost (model prog w) A E (some (assign (.Name y py) env)) (fun _ s' => Q .next s') (.ref s₂.heap.objs.size) H2.objs.size) s₃ := by
    rintro s₃ rfl
    refine pair_loop (cenv := compEnvC scope cl H2.objs.size env) (R := R) W hPt hh hsz (lookup_relabel_local ha) (lookup_relabel_local hb) (by simp [compEnvC, relabel, hkind]) hab hDC hDf hCf hst₁ hacc hns₁ ?_ ?_
    · intro i x y s₃ m₃ E' hi hv hn hm1 hm2 hk
      exact helt _ i x y s₃ m₃ E' hi hv hn hm1 hm2 fun c o hc e => hk c o (below c (Heap.lt_size e)).1 hc (below c (Heap.lt_size e)).2 (old c o e)
    · intro h' tk m' ys hnC hD hlen hR hk
      have hk' : ∀ c o, c ∉ wr → s₂.heap.get? c = some o → h'.get? c = some o := fun c o hc e => hk c o (below c (Heap.lt_size e)).1 hc (below c (Heap.lt_size e)).2 (old c o e)
      have hLlt : env.locals < s₂.heap.objs.size := hn.lt
      have hLC : env.locals ≠ H2.objs.size := (below _ hLlt).1
      have hLD : env.locals ≠ s₂.heap.objs.size := (below _ hLlt).2
      show wpAny _ A (assign (.Name y py) env (.ref s₂.heap.objs.size)) _ _ _
      refine wpAny_assign_Name (wpAny_storeName_local hy (hn.at' fun o e => hk' _ o hLw e) (fun h₂ hn₂ hs₂ => ?_) hp)
      refine ⟨m', hnC.sameBut hs₂ (Ne.symm hLC), fun h₃ hs₃ => ?_⟩
      exact hQ _ h₃ _ ys (Heap.get?_none_of_le (Nat.le_refl _)) (hs₃.extBut _ _ hDC (hs₂.extBut _ _ (Ne.symm hLD) hD)) hlen hR (hn₂.sameBut hs₃ hLC) fun c o hc hw e =>
        hs₃.extBut c o (below c (Heap.lt_size e)).1 (hs₂.extBut c o hc (hk' c o hw e))
  exact codeAny_compStart_list (loop _ rfl) (W.self 0 _ _ _ hst₁ (loop _ rfl))
end
section
variable {w : World} {L fa : Addr} {cd : Value} {h₀ : Heap} {m : Str → Option Value} {s : Shared} {Q : Flow → Shared → Prop} {mean : ExcName → Option Value} {mg mb : Str → Option Value} {news : List (Addr × Obj)}
theorem lt5 (n c : Nat) (h : c = n + 4 ∨ c = n + 2 ∨ c = n + 3 ∨ c = n ∨ c = n + 1 ∨ c < n) : c < n + 5 := by omega
theorem ints_get : ∀ {vs : List Value} {ns : List Int} {i : Nat} {v : Value}, IntsAre vs ns → vs[i]? = some v → ∃ n t, ns[i]? = some n ∧ v = .int n t
  | _, _, 0, _, .cons n t _, h => ⟨n, t, rfl, by cases h; rfl⟩
  | _, _, i + 1, v, .cons n t r, h => ints_get (i := i) r h
  | _, _, i, _, .nil, h => by simp at h
theorem ints_of_all : ∀ {ys : List Value} {ms : List Int}, ys.length = ms.length → (∀ (j : Nat) v, ys[j]? = some v → ∃ n t, ms[j]? = some n ∧ v = .int n t) → IntsAre ys ms
  | [], [], _, _ => .nil
  | y :: ys, n :: ms, hl, h => by
    obtain ⟨n', t, e, rfl⟩ := h 0 y rfl
    cases e
    exact .cons _ _ (ints_of_all (by simpa using hl) fun j v hj => h (j + 1) v hj)
theorem law12 {Da Db : Addr} {av bv : List Value} {as bs : List Int} {n : Nat} {md : Int} {tm : Tok} {c1 c2 : Nat} {o6 : Obj} (X : (Mine.hd.heap_39 w.params).In h₀) (T : Top hd.view_39 (looseW hd.view_39 []) mean mg mb h₀) (F : Fr h₀ L s.heap m) (N : News h₀ L s.heap news)
    (hma : m (Str.ofString "ahead") = some (.ref Da)) (hmb : m (Str.ofString "behind") = some (.ref Db)) (h6 : (L + 2, o6) ∈ news) (d6 : o6.data = .cell (some (.int md tm)))
    (haD : (Da, W.listOf av.toArray c1) ∈ news) (haI : IntsAre av as) (hain : KBa.In as) (hal : as.length = n) (hbD : (Db, W.listOf bv.toArray c2) ∈ news) (hbI : IntsAre bv bs) (hbin : KBa.In bs) (hbl : bs.length = n) (hn8 : n ≤ 8) (hmd : 0 < md)
    (next : ∀ D h' tk k ys, Fr h₀ L h' (fun z => if z = Str.ofString "products" then some (.ref D) else m z) → News h₀ L h' ((D, W.listOf ys.toArray k) :: news) → IntsAre ys (List.zipWith (fun a b => a * b % md) as bs) → LawAt w L fa cd 13 Q { s with heap := h', toks := tk }) :
    LawAt w L fa cd 12 Q s := by
  have kf : (Mine.hd.heap_39 w.params).In h₀ → PySem.Challenge.rw_ny0004_01 = PySem.Challenge.rw_ny0004_01 := by
    k_fill
    exact fun _ => rfl
  refine law_any rfl ?_
  refine compA_pair (fun i v => ∃ n t, (List.zipWith (fun a b => a * b % md) as bs)[i]? = some n ∧ v = .int n t) rfl (by with_unfolding_all rfl) (by with_unfolding_all rfl) (by decide) rfl (by decide) rfl rfl (by decide) rfl rfl ?_ (by intro _; with_unfolding_all rfl)
  refine Call_Name2 ?_
  refine law_built F X T ?hns rfl (by decide) ?_
  case hns => k_is
  refine PyProof.Rows.callWith_type rfl (evalArgs_plain (spliced_cons (law_loc F hma (spliced_cons (law_loc F hmb (spliced_nil ?_))))))
  have hl1 : s.heap.IsList Da av.toArray := PySem.IsL.isList (N _ haD).1
  have hl2 : s.heap.IsList Db bv.toArray := PySem.IsL.isList (N _ hbD).1
  have a1 : Da < s.heap.objs.size := Heap.lt_size (N _ haD).1
  have a2 : Db < s.heap.objs.size := Heap.lt_size (N _ hbD).1
  refine call_zip_2 hl1 hl2 fun h' hz hTI hTO hit1 hit2 hsz hk => ?_
  have W := (WalksT.zip2 (prog := PySem.Challenge.rw_ny0004_01.row.prog) (w := w) (A := lawA L fa cd) rfl _ _ _ _ _ _ _ (zipApart_new a1 a2) av.toArray bv.toArray).toU
  have hst : IsZip h' (s.heap.objs.size + 4) (s.heap.objs.size + 2) (s.heap.objs.size + 3) .none ∧ IsPair h' (s.heap.objs.size + 2) (.ref s.heap.objs.size) (.ref (s.heap.objs.size + 1)) ∧ (∃ a b, IsPair h' (s.heap.objs.size + 3) a b) ∧ h'.IsListIter s.heap.objs.size Da 0 ∧ h'.IsListIter (s.heap.objs.size + 1) Db 0 ∧ h'.IsList Da av.toArray ∧ h'.IsList Db bv.toArray :=
    ⟨hz, hTI, ⟨_, _, hTO⟩, hit1, hit2, hl1.at fun o e => hk _ o e, hl2.at fun o e => hk _ o e⟩
  have en : min av.toArray.size bv.toArray.size = n := by rw [List.size_toArray, List.size_toArray, haI.length, hbI.length, hal, hbl, Nat.min_self]
  have F' := F.keptAll hk
  have N' := N.grown hk
  have hnew : ∀ c, c < s.heap.objs.size → c ∉ [s.heap.objs.size + 4, s.heap.objs.size + 3, s.heap.objs.size, s.heap.objs.size + 1] := by
    intro c hc hm
    have hc' : (c : Nat) < s.heap.objs.size := hc
    simp only [List.mem_cons, List.not_mem_nil, or_false] at hm
    rcases hm with e | e | e | e <;> exact absurd (e ▸ hc') (by omega)
  refine W.self 0 _ _ _ hst ?_
  refine ⟨_, _, _, _, _, _, _, m, rfl, W, ?_, ?_, hst, ?_, hnew _ F.ns.lt, F'.ns, ?_, ?_⟩
  · rintro i vals ⟨x, y, _, _, e⟩
    exact ⟨x, y, e⟩
  · rw [en, sizeLine_eq]; omega
  · intro c hc
    show c < h'.objs.size
    rw [hsz]
    refine lt5 _ c ?_
    simp only [List.mem_cons, List.not_mem_nil, or_false] at hc
    rcases hc with e | e | e | e | e | e | e
    · exact .inl e
    · exact .inr (.inl e)
    · exact .inr (.inr (.inl e))
    · exact .inr (.inr (.inr (.inl e)))
    · exact .inr (.inr (.inr (.inr (.inl e))))
    · exact .inr (.inr (.inr (.inr (.inr (e ▸ a1)))))
    · exact .inr (.inr (.inr (.inr (.inr (e ▸ a2)))))
  · intro C i x y s₃ m₃ E' hi hv hns hm1 hm2 hk3
    have kp : ∀ c o, s.heap.get? c = some o → s₃.heap.get? c = some o := fun c o e => hk3 c o (hnew c (Heap.lt_size e)) (hk c o e)
    have N₃ := N.grown kp
    obtain ⟨x', y', q1, q2, q3⟩ := hv
    have q4 : [x, y] = [x', y'] := by simpa using congrArg Array.toList q3
    injection q4 with q5 q6
    injection q6 with q6 _
    subst q5
    subst q6
    obtain ⟨a, ta, ga, rfl⟩ := ints_get haI (by simpa using q1)
    obtain ⟨b, tb, gb, rfl⟩ := ints_get hbI (by simpa using q2)
    have ba := hain a (List.mem_of_getElem? ga)
    refine (evh_mod (by omega) (evh_mul (IntMulOk.of_left (PySem.intBits_le_64 (by omega) (by omega))) (evh_name hns hm1) (evh_name hns hm2)) (evh_cell ⟨o6, (N₃ _ h6).1, d6⟩ rfl)) _ _ rfl fun t' k' => ⟨?_, _, _, rfl, fun _ _ e => e⟩
    refine ⟨_, _, ?_, rfl⟩
    rw [fmod_pos hmd]
    simp [List.getElem?_zipWith, ga, gb]
  · intro D h2 tk ys hD hg hlen hR hns hk2
    have kp2 : ∀ c o, c ≠ L → s.heap.get? c = some o → h2.get? c = some o := fun c o h1 e => hk2 c o h1 (hnew c (Heap.lt_size e)) (hk c o e)
    have hDs : s.heap.get? D = none := by
      cases q : s.heap.get? D with
      | none => rfl
      | some o => have := hk _ _ q; rw [show h'.get? D = none from hD] at this; cases this
    refine ⟨rfl, next D h2 tk ys.length ys ⟨hns, fun b o e => kp2 b o (fun q => ?_) (F.keep b o e), F.above⟩ (fun p hp => ?_) ?_⟩
    · have := Heap.lt_size e
      rw [q] at this
      exact absurd (Nat.lt_of_lt_of_le this F.above) (Nat.lt_irrefl _)
    · rcases List.mem_cons.mp hp with rfl | hp
      · refine ⟨hg, fun e => ?_, ?_⟩
        · obtain ⟨o', _, _, ho, _⟩ := F.ns
          rw [show D = L from e, ho] at hDs
          cases hDs
        · cases q : h₀.get? D with
          | none => rfl
          | some o' => rw [F.keep _ _ q] at hDs; cases hDs
      · exact ⟨kp2 _ _ (N p hp).2.1 (N p hp).1, (N p hp).2⟩
    · refine ints_of_all ?_ hR
      rw [hlen, en, List.length_zipWith, hal, hbl, Nat.min_self]
end
end Mine
end PartTC
-- part TD
section PartTD
open PySem PySem.W PyProof.Rows PySem.Spec PySem.Calls
set_option maxRecDepth 100000
set_option maxHeartbeats 4000000
namespace Mine
set_option linter.unusedVariables false
theorem ite_ne {x y : Str} {u v : Value} {r : Option Value} (h : x ≠ y) (hv : r = some v) : (if x = y then some u else r) = some v := by rw [if_neg h, hv]
theorem ite_eq' {y : Str} {u : Value} {r : Option Value} : (if y = y then some u else r) = some u := if_pos rfl
theorem in_mod {md : Int} {ns : List Int} (h0 : 0 < md) (h1 : md ≤ 256) : KBa.In (ns.map (· % md)) := by
  intro x hx
  obtain ⟨y, _, rfl⟩ := List.mem_map.mp hx
  exact ⟨Int.emod_nonneg _ (by omega), Int.lt_of_lt_of_le (Int.emod_lt_of_pos _ h0) h1⟩
theorem in_zip {md : Int} {as bs : List Int} (h0 : 0 < md) (h1 : md ≤ 256) : KBa.In (List.zipWith (fun a b => a * b % md) as bs) := by
  intro x hx
  rw [← List.map_uncurry_zip_eq_zipWith] at hx
  obtain ⟨y, _, rfl⟩ := List.mem_map.mp hx
  exact ⟨Int.emod_nonneg _ (by omega), Int.lt_of_lt_of_le (Int.emod_lt_of_pos _ h0) h1⟩
section
variable {w : World} {L fa : Addr} {cd : Value} {h₀ : Heap} {m : Str → Option Value} {s : Shared} {Q : Flow → Shared → Prop} {mean : ExcName → Option Value} {mg mb : Str → Option Value}
theorem law_from4 {D : Addr} {ws : List Value} {nl : List Int} {c1 c2 o6 o5 : Obj} {tot md hf : Int} {tt tm th : Tok} (X : (Mine.hd.heap_39 w.params).In h₀) (T : Top hd.view_39 (looseW hd.view_39 []) mean mg mb h₀)
    (F : Fr h₀ L s.heap m) (N : News h₀ L s.heap [(L + 3, c2), (L + 4, c1), (D, W.listOf ws.toArray 0), (L + 2, o6), (L + 1, o5)]) (hD : L + 4 < D) (e1 : c1.data = .cell none) (e2 : c2.data = .cell none)
    (d5 : o5.data = .cell (some (.int tot tt))) (d6 : o6.data = .cell (some (.int md tm))) (hI : IntsAre ws nl) (hl16 : nl.length = 16)
    (hmn : m (Str.ofString "numbers") = some (.ref D)) (hmh : m (Str.ofString "half") = some (.int hf th)) (hmd1 : 3 ≤ md) (hmd2 : md ≤ 255) (hhf : 2 * hf = md + 1)
    (hret : ∀ h' tk', (∀ b o, h₀.get? b = some o → h'.get? b = some o) → Q (.ret (.bool true)) { s with heap := h', toks := tk' }) : LawAt w L fa cd 4 Q s := by
  obtain ⟨hks, hk0, hk3⟩ := kinds_facts tot
  have hmd0 : 0 < md := by omega
  have hmd3 : md ≤ 256 := by omega
  have hn8 : 2 ^ (kindsOf tot).length ≤ 8 := Nat.le_trans (Nat.pow_le_pow_right (by decide) hk3) (by decide)
  refine law4 F N hD e2 ?_
  intro h1 tk1 rest O d o3 F1 N1 off1 d3 hco ht
  refine law5 F1 hmh N1 off1 hD e1 ?_
  intro h2 tk2 news B b o4 F2 N2 i4 isub d4 hcb htb
  have i3 : (L + 3, o3) ∈ news := isub _ (.head _)
  have iD : (D, W.listOf ws.toArray 0) ∈ news := isub _ (.tail _ (.head _))
  have i2 : (L + 2, o6) ∈ news := isub _ (.tail _ (.tail _ (.head _)))
  have i1 : (L + 1, o5) ∈ news := isub _ (.tail _ (.tail _ (.tail _ (.head _))))
  have ht2 : TabsIn news O d := ht.mono fun p hp => isub p (.tail _ (.tail _ (.tail _ (.tail _ hp))))
  clear isub ht N1 N off1 F1 F
  refine law6 X T F2 N2 i1 d5 ?_
  intro Dk h3 tk3 ck kv F3 N3 hIk
  refine law7 X T F3 N3 ite_eq' (.head _) hIk hk3 ?_
  intro h4 tk4 tl F4 N4
  refine law8 F4 N4 (ite_ne (by decide) (ite_ne (by decide) hmn)) (.tail _ iD) hI hl16 ite_eq' hmd0 (.tail _ i2) d6 ?_
  intro Df h5 tk5 cf fv x5 F5 N5 hIf
  refine law9 F5 N5 (ite_ne (by decide) (ite_ne (by decide) (ite_ne (by decide) hmn))) (.tail _ (.tail _ (.tail _ iD))) hI hl16 hn8 (ite_ne (by decide) ite_eq') hmd0 (.tail _ (.tail _ (.tail _ i2))) d6 ?_
  intro Ds h6 tk6 cs sv x6 F6 N6 hIs
  have sub6 : ∀ p ∈ news, p ∈ ((Ds, W.listOf sv.toArray cs) :: x6 :: (Df, W.listOf fv.toArray cf) :: x5 :: (Dk, W.listOf kv.toArray ck) :: news) := fun p hp => .tail _ (.tail _ (.tail _ (.tail _ (.tail _ hp))))
  refine law10 F6 N6 (ite_ne (by decide) (ite_ne (by decide) (ite_ne (by decide) ite_eq'))) (.tail _ (.tail _ (.tail _ (.tail _ (.head _))))) hIk hks hk3 (sub6 _ i3) d3 (ht2.mono sub6) ?_
  intro Dt h7 tk7 ct F7 N7
  have hfl : ((nl.take (2 ^ (kindsOf tot).length)).map (· % md)).length = 2 ^ (kindsOf tot).length := by rw [List.length_map, List.length_take]; omega
  have hsl : (((nl.drop 8).take (2 ^ (kindsOf tot).length)).map (· % md)).length = 2 ^ (kindsOf tot).length := by rw [List.length_map, List.length_take, List.length_drop]; omega
  obtain ⟨fs, hfs⟩ : ∃ fs, (nl.take (2 ^ (kindsOf tot).length)).map (· % md) = fs := ⟨_, rfl⟩
  obtain ⟨ss, hss⟩ : ∃ ss, ((nl.drop 8).take (2 ^ (kindsOf tot).length)).map (· % md) = ss := ⟨_, rfl⟩
  have hfin : KBa.In fs := hfs ▸ in_mod hmd0 hmd3
  have hsin : KBa.In ss := hss ▸ in_mod hmd0 hmd3
  rw [hfs] at hIf hfl
  rw [hss] at hIs hsl
  refine law11 X T F7 N7 (ite_ne (by decide) (ite_ne (by decide) ite_eq')) (ite_ne (by decide) ite_eq') ite_eq' (.tail _ (sub6 _ i2)) d6 (.tail _ (.tail _ (.tail _ (.head _)))) hIf hfin hfl (.tail _ (.head _)) hIs hsin hsl hk0 hk3 hks (.head _) (ht2.mono fun p hp => .tail _ (sub6 p hp)) hco hmd0 hmd3 ?_
  intro Da Db av bv ca cb h8 tk8 x8 F8 N8 hIa hIb
  have F8' : Fr h₀ L h8 (fun z => if z = Str.ofString "ahead" then some (.ref Da) else (fun z => if z = Str.ofString "behind" then some (.ref Db) else (fun z => if z = Str.ofString "tables" then some (.ref Dt) else (fun z => if z = Str.ofString "second" then some (.ref Ds) else (fun z => if z = Str.ofString "first" then some (.ref Df) else (fun z => if z = Str.ofString "length" then some (.int ((2 ^ (kindsOf tot).length : Nat) : Int) tl) else (fun z => if z = Str.ofString "kinds" then some (.ref Dk) else m z) z) z) z) z) z) z) := F8
  clear F8
  have hal : (allL md ((kindsOf tot).map overCo) fs (kindsOf tot).length).length = 2 ^ (kindsOf tot).length := by rw [allL_length, hfl]
  have hbl : (allL md ((kindsOf tot).map overCo) ss (kindsOf tot).length).length = 2 ^ (kindsOf tot).length := by rw [allL_length, hsl]
  refine law12 X T F8' N8 ite_eq' (ite_ne (by decide) ite_eq') (.tail _ (.tail _ (.tail _ (.tail _ (sub6 _ i2))))) d6 (.tail _ (.tail _ (.head _))) hIa (allL_in hmd0 hmd3 hfin _) hal (.tail _ (.head _)) hIb (allL_in hmd0 hmd3 hsin _) hbl hn8 hmd0 ?_
  intro Dp h9 tk9 cp pv F9 N9 hIp
  refine law13 X T F9 N9 (ite_ne (by decide) (ite_ne (by decide) (ite_ne (by decide) (ite_ne (by decide) (ite_ne (by decide) ite_eq'))))) (ite_ne (by decide) (ite_ne (by decide) (ite_ne (by decide) (ite_ne (by decide) ite_eq')))) (ite_ne (by decide) (ite_ne (by decide) (ite_ne (by decide) (ite_ne (by decide) (ite_ne (by decide) (ite_ne (by decide) (ite_ne (by decide) ite_eq')))))))
    (.tail _ (.tail _ (.tail _ (.tail _ (.tail _ (sub6 _ i2)))))) d6
    (.tail _ (.tail _ (.tail _ (.tail _ (.tail _ (.tail _ (.tail _ (.head _)))))))) hIf hfin hfl (.tail _ (.tail _ (.tail _ (.tail _ (.tail _ (.head _)))))) hIs hsin hsl
    (.tail _ (.tail _ (.tail _ (.tail _ (.tail _ (.tail _ (.tail _ (.tail _ (.tail _ (.head _)))))))))) hIk hk3 hks hmd0 hmd3 ?_
  intro Dd rv cr h10 tk10 x10 F10 N10 hId
  refine law14 X T F10 N10 (ite_ne (by decide) ite_eq') (ite_ne (by decide) (ite_ne (by decide) (ite_ne (by decide) (ite_ne (by decide) (ite_ne (by decide) (ite_ne (by decide) (ite_ne (by decide) (ite_ne (by decide) ite_eq')))))))) ite_eq'
    (.tail _ (.tail _ (.tail _ (.tail _ (.tail _ (.tail _ (.tail _ (sub6 _ i2)))))))) d6 (.tail _ (.tail _ (.tail _ (.tail _ (.tail _ (.tail _ (.tail _ (sub6 _ i4)))))))) d4
    (.tail _ (.tail _ (.head _))) hIp (in_zip hmd0 hmd3) (by rw [List.length_zipWith, hal, hbl, Nat.min_self]) (.head _) hId
    (.tail _ (.tail _ (.tail _ (.tail _ (.tail _ (.tail _ (.tail _ (.tail _ (.tail _ (.tail _ (.tail _ (.head _)))))))))))) hIk hk0 hk3 hks (htb.mono fun p hp => .tail _ (.tail _ (.tail _ (.tail _ (.tail _ (.tail _ (.tail _ (sub6 p hp)))))))) hcb (by omega) hmd0 hmd3
    (law_plain hmd0 hhf hks hk0 hk3 hfl hsl) ?_
  intro h' tk' kp
  exact hret h' tk' kp
end
end Mine
end PartTD
-- part TE
section PartTE
open PySem PySem.W PyProof.Rows PySem.Spec PySem.Calls
set_option maxRecDepth 100000
set_option maxHeartbeats 4000000
namespace Mine
set_option linter.unusedVariables false
inductive AllConst : List Expr → List Int → Prop
  | nil : AllConst [] []
  | cons {n : Int} {k : Nat} {pos : Pos} {es : List Expr} {ns : List Int} : AllConst es ns → AllConst (.Constant (.int n) k pos :: es) (n :: ns)
theorem consts_new {M : Model} {A : Around} {E : Value → Shared → Prop} {env : Env} {pos : Pos} : ∀ {es : List Expr} {ns : List Int} {s : Shared} {Q : List Value → Shared → Prop}, AllConst es ns → (∀ vs k, IntsAre vs ns → Q vs { s with toks := k }) → wpAny M A (spliced (backTo pos (starEach es env))) Q E s
  | _, _, s, _, .nil, h => wpAny_items_nil (h [] s.toks .nil)
  | _, _, s, _, .cons (n := n) r, h => wpAny_items_cons (wpAny_Constant_int (consts_new r fun vs k hv => h _ k (.cons _ _ hv)))
section
variable {w : World} {L fa : Addr} {cd : Value} {h₀ : Heap} {m : Str → Option Value} {s : Shared} {Q : Flow → Shared → Prop} {mean : ExcName → Option Value} {mg mb : Str → Option Value} {news : List (Addr × Obj)}
theorem law_nums {k k0 : Nat} {p1 p2 p3 p4 p5 p6 p7 p8 p9 p10 p11 p12 p13 : Pos} {es : List Expr} {ks : List Int} {l : Addr} {vs : List Value} {ns : List Int} (X : (Mine.hd.heap_39 w.params).In h₀) (T : Top hd.view_39 (looseW hd.view_39 []) mean mg mb h₀) (F : Fr h₀ L s.heap m) (N : News h₀ L s.heap news)
    (hm : m (Str.ofString "script") = some (.ref l)) (hl : h₀.IsList l vs.toArray) (hI : IntsAre vs ns) (hlen : ns.length ≤ 63) (hc : AllConst es ks) (hc16 : ks.length = 16)
    (hst : lawBody.drop k = Stmt.Assign [.Name (Str.ofString "numbers") p1] (.BinOp (.Subscript (.Name (Str.ofString "script") p2) (.Slice none (some (.Constant (.int 16) k0 p3)) none p4) p5) .Add (.Subscript (.List es p6) (.Slice (some (.Call (.Name (Str.ofString "len") p7) [.Name (Str.ofString "script") p8] [] p9)) none none p10) p11) p12) p13 :: lawBody.drop (k + 1))
    (next : ∀ D ws nl h' tk, Fr h₀ L h' (fun y => if y = Str.ofString "numbers" then some (.ref D) else m y) → News h₀ L h' ((D, W.listOf ws.toArray 0) :: news) → (∀ p ∈ news, p.1 < D) → IntsAre ws nl → nl.length = 16 → LawAt w L fa cd (k + 1) Q { s with heap := h', toks := tk }) :
    LawAt w L fa cd k Q s := by
  have kf : (Mine.hd.heap_39 w.params).In h₀ → PySem.Challenge.rw_ny0004_01 = PySem.Challenge.rw_ny0004_01 := by
    k_fill
    exact fun _ => rfl
  have hvl : vs.length = ns.length := hI.length
  refine law_any hst ?_
  refine Assign_Name_A (hs := by with_unfolding_all rfl) ?_
  refine wpAny_BinOp ?_
  refine Subscript_ (law_loc F hm ?_)
  refine wpAny_Slice ?_
  rw [evalPart_none, evalPart_some]
  refine wpAny_pure (wpAny_Constant_int (wpAny_pure ?_))
  refine kmk_slice_ints (s := { s with toks := s.toks + 1 }) (lo := none) (hi := some 16) F N (hl.at fun o e => F.keep _ o e) .none (.int _ _) hI (kmk_upto hI (by decide)) rfl ?_ (by with_unfolding_all rfl) (by intro _; with_unfolding_all rfl) (by rw [sizeLine_eq, List.size_toArray]; omega)
  intro D1 ws1 h1 F1 N1 lt1 hI1 _ _
  refine Subscript_ (List_new (consts_new hc fun cv kc hIc => ?_))
  have hcl : cv.length = 16 := by rw [hIc.length, hc16]
  refine newList_K F1 N1 (fun r h2 F2 N2 lt2 => ?_) (by rw [sizeLine_eq]; omega)
  refine wpAny_Slice ?_
  rw [evalPart_none, evalPart_some]
  refine Call_Name1 ?_
  refine law_built F2 X T ?hns rfl (by decide) ?_
  case hns => k_is
  refine PySem.callWith_builtin1 ?_
  refine law_loc F2 hm ?_
  have esz : ((vs.toArray.size : Nat) : Int) = (ns.length : Int) := by rw [List.size_toArray, hvl]
  refine len_list (hl.at fun o e => F2.keep _ o e) (by rw [esz]; omega) ?_
  rw [esz]
  refine wpAny_pure (wpAny_pure ?_)
  refine kba_turn (value' := PySem.Expr.Name (PySem.Str.ofString "x") ⟨0, 0, 0, 0⟩) (fun _ => rfl) ?_
  refine kmk_slice_ints (lo := some (ns.length : Int)) (hi := none) F2 N2 (PySem.IsL.isList (N2 _ (.head _)).1) (.int _ _) .none hIc (kmk_from hIc (by omega)) rfl ?_ (by with_unfolding_all rfl) (by intro _; with_unfolding_all rfl) (by rw [sizeLine_eq, List.size_toArray]; omega)
  intro D2 ws2 h3 F3 N3 lt3 hI3 _ _
  refine kmk_add_ints F3 N3 (PySem.IsL.isList (N3 _ (.tail _ (.tail _ (.head _)))).1) (PySem.IsL.isList (N3 _ (.head _)).1) hI1 hI3 ?_ ?hz
  case hz =>
    rw [sizeLine_eq, List.length_take, List.length_drop]
    omega
  intro D3 ws3 h4 F4 N4 lt4 hI4
  have N4' : News h₀ L h4 ((D3, W.listOf ws3.toArray 0) :: news) := fun p hp => by
    rcases List.mem_cons.mp hp with rfl | hp
    · exact N4 _ (.head _)
    · exact N4 _ (.tail _ (.tail _ (.tail _ (.tail _ hp))))
  refine law_store F4 N4' fun h5 F5 N5 => ⟨rfl, next D3 ws3 _ h5 _ F5 N5 (fun p hp => lt4 p (.tail _ (.tail _ (.tail _ hp)))) hI4 ?_⟩
  rw [List.length_append, List.length_take, List.length_drop, hc16]
  have e16 : (16 : Int).toNat = 16 := rfl
  rw [e16, Int.toNat_natCast]
  omega
theorem law0 {l : Addr} {vs : List Value} {ns : List Int} (X : (Mine.hd.heap_39 w.params).In h₀) (T : Top hd.view_39 (looseW hd.view_39 []) mean mg mb h₀) (F : Fr h₀ L s.heap m) (N : News h₀ L s.heap news)
    (hm : m (Str.ofString "script") = some (.ref l)) (hl : h₀.IsList l vs.toArray) (hI : IntsAre vs ns) (hlen : ns.length ≤ 63)
    (next : ∀ D ws nl h' tk, Fr h₀ L h' (fun y => if y = Str.ofString "numbers" then some (.ref D) else m y) → News h₀ L h' ((D, W.listOf ws.toArray 0) :: news) → (∀ p ∈ news, p.1 < D) → IntsAre ws nl → nl.length = 16 → LawAt w L fa cd 1 Q { s with heap := h', toks := tk }) :
    LawAt w L fa cd 0 Q s := by
  refine law_nums (k := 0) (ks := [5, 14, 31, 24, 26, 9, 37, 18, 40, 26, 28, 12, 33, 30, 19, 14]) X T F N hm hl hI hlen ?hc ?h16 rfl next
  case hc => repeat (first | exact AllConst.nil | refine AllConst.cons ?_)
  case h16 => rfl
theorem law1 {D : Addr} {ws : List Value} {nl : List Int} {c4 : Obj} (X : (Mine.hd.heap_39 w.params).In h₀) (T : Top hd.view_39 (looseW hd.view_39 []) mean mg mb h₀) (F : Fr h₀ L s.heap m) (N : News h₀ L s.heap ((L + 1, c4) :: news)) (hne : ∀ p ∈ news, p.1 ≠ L + 1) (e4 : c4.data = .cell none)
    (hm : m (Str.ofString "numbers") = some (.ref D)) (hD : (D, W.listOf ws.toArray 0) ∈ news) (hI : IntsAre ws nl)
    (next : ∀ o5 t h' tk, Fr h₀ L h' m → News h₀ L h' ((L + 1, o5) :: news) → o5.data = .cell (some (.int nl.sum t)) → LawAt w L fa cd 2 Q { s with heap := h', toks := tk }) :
    LawAt w L fa cd 1 Q s := by
  have kf : (Mine.hd.heap_39 w.params).In h₀ → PySem.Challenge.rw_ny0004_01 = PySem.Challenge.rw_ny0004_01 := by
    k_fill
    exact fun _ => rfl
  refine law_any rfl ?_
  refine Assign_Name_A (hs := by with_unfolding_all rfl) ?_
  refine Call_Name1 ?_
  refine law_built F X T ?hns rfl (by decide) ?_
  case hns => k_is
  refine PySem.callWith_builtin1 ?_
  refine law_loc F hm ?_
  refine sumK rfl F N (PySem.IsL.isList (N _ (.tail _ hD)).1) hI ?_
  intro h' tk' t' F' N'
  refine store_cell F' N' hne rfl e4 rfl rfl fun h'' o5 F'' N'' d5 => ⟨rfl, next o5 t' h'' _ F'' N'' d5⟩
theorem law2 {o5 c3 : Obj} {tot : Int} {tt : Tok} (T : Top hd.view_39 (looseW hd.view_39 []) mean mg mb h₀) (F : Fr h₀ L s.heap m) (N : News h₀ L s.heap ((L + 2, c3) :: news)) (hne : ∀ p ∈ news, p.1 ≠ L + 2) (e3 : c3.data = .cell none)
    (i5 : (L + 1, o5) ∈ news) (d5 : o5.data = .cell (some (.int tot tt)))
    (next : ∀ o6 t h' tk, Fr h₀ L h' m → News h₀ L h' ((L + 2, o6) :: news) → o6.data = .cell (some (.int (3 + (tot.fdiv 81).fmod 127 * 2) t)) → LawAt w L fa cd 3 Q { s with heap := h', toks := tk }) :
    LawAt w L fa cd 2 Q s := by
  refine law_any rfl ?_
  refine Assign_Name_A (hs := by with_unfolding_all rfl) ?_
  refine (evh_add evh_const (evh_mul (IntMulOk.of_right (by decide)) (evh_mod (by decide) (evh_fdiv (by decide) (law_room T F) (evh_cell ⟨o5, (N _ (.tail _ i5)).1, d5⟩ rfl) evh_const) evh_const) evh_const)) _ _ rfl fun t k => ?_
  refine store_cell F N hne rfl e3 rfl rfl fun h'' o6 F'' N'' d6 => ⟨rfl, next o6 t h'' _ F'' N'' d6⟩
theorem law3 {o6 : Obj} {md : Int} {tm : Tok} (T : Top hd.view_39 (looseW hd.view_39 []) mean mg mb h₀) (F : Fr h₀ L s.heap m) (N : News h₀ L s.heap news) (i6 : (L + 2, o6) ∈ news) (d6 : o6.data = .cell (some (.int md tm)))
    (next : ∀ t h' tk, Fr h₀ L h' (fun y => if y = Str.ofString "half" then some (.int (md.fdiv 2 + 1) t) else m y) → News h₀ L h' news → LawAt w L fa cd 4 Q { s with heap := h', toks := tk }) :
    LawAt w L fa cd 3 Q s := by
  refine law_any rfl ?_
  refine Assign_Name_A (hs := by with_unfolding_all rfl) ?_
  refine (evh_add (evh_fdiv (by decide) (law_room T F) (evh_cell ⟨o6, (N _ i6).1, d6⟩ rfl) evh_const) evh_const) _ _ rfl fun t k => ?_
  exact law_store F N fun h' F' N' => ⟨rfl, next t h' _ F' N'⟩
end
end Mine
end PartTE
-- part TF
section PartTF
open PySem PySem.W PyProof.Rows PySem.Spec PySem.Calls
set_option maxRecDepth 100000
set_option maxHeartbeats 8000000
namespace Mine
theorem md_facts {tot md : Int} (h : 3 + (tot.fdiv 81).fmod 127 * 2 = md) : 3 ≤ md ∧ md ≤ 255 ∧ 2 * (md.fdiv 2 + 1) = md + 1 := by
  have h1 := fmod_lo (tot.fdiv 81) (n := 127) (by decide)
  have h2 := fmod_hi (tot.fdiv 81) (n := 127) (by decide)
  have h3 : md.fdiv 2 = md / 2 := Int.fdiv_eq_ediv_of_nonneg _ (by decide)
  rw [h3]
  omega
theorem lt_ne (a b : Nat) (h : a < b) : b ≠ a := by omega
section
variable {w : World} {L fa : Addr} {cd : Value} {h₀ : Heap} {m : Str → Option Value} {s : Shared} {Q : Flow → Shared → Prop} {mean : ExcName → Option Value} {mg mb : Str → Option Value} {news : List (Addr × Obj)}
theorem law_all {l : Addr} {vs : List Value} {ns : List Int} {c1 c2 c3 c4 : Obj} (X : (Mine.hd.heap_39 w.params).In h₀) (T : Top hd.view_39 (looseW hd.view_39 []) mean mg mb h₀) (F : Fr h₀ L s.heap m) (N : News h₀ L s.heap [(L + 1, c4), (L + 2, c3), (L + 3, c2), (L + 4, c1)])
    (e1 : c1.data = .cell none) (e2 : c2.data = .cell none) (e3 : c3.data = .cell none) (e4 : c4.data = .cell none)
    (hm : m (Str.ofString "script") = some (.ref l)) (hl : h₀.IsList l vs.toArray) (hI : IntsAre vs ns) (hlen : ns.length ≤ 63)
    (hret : ∀ h' tk', (∀ b o, h₀.get? b = some o → h'.get? b = some o) → Q (.ret (.bool true)) { s with heap := h', toks := tk' }) : LawAt w L fa cd 0 Q s := by
  refine law0 X T F N hm hl hI hlen ?_
  intro D ws nl h1 tk1 F1 N1 lt1 hIw hl16
  have l1 : L + 1 < D := lt1 _ (.head _)
  have l2 : L + 2 < D := lt1 _ (.tail _ (.head _))
  have l4 : L + 4 < D := lt1 _ (.tail _ (.tail _ (.tail _ (.head _))))
  refine law1 (news := [(D, W.listOf ws.toArray 0), (L + 2, c3), (L + 3, c2), (L + 4, c1)]) X T F1 (fun p hp => N1 p ?_) ?_ e4 ite_eq' (.head _) hIw ?_
  · simp only [List.mem_cons, List.not_mem_nil, or_false] at hp ⊢
    rcases hp with rfl | rfl | rfl | rfl | rfl
    · exact .inr (.inl rfl)
    · exact .inl rfl
    · exact .inr (.inr (.inl rfl))
    · exact .inr (.inr (.inr (.inl rfl)))
    · exact .inr (.inr (.inr (.inr rfl)))
  · intro p hp
    simp only [List.mem_cons, List.not_mem_nil, or_false] at hp
    rcases hp with rfl | rfl | rfl | rfl
    · exact ne_far L D 1 l4 (by decide)
    · exact ne_off L 2 1 (by decide)
    · exact ne_off L 3 1 (by decide)
    · exact ne_off L 4 1 (by decide)
  intro o5 t5 h2 tk2 F2 N2 d5
  refine law2 (news := [(L + 1, o5), (D, W.listOf ws.toArray 0), (L + 3, c2), (L + 4, c1)]) T F2 (fun p hp => N2 p ?_) ?_ e3 (.head _) d5 ?_
  · simp only [List.mem_cons, List.not_mem_nil, or_false] at hp ⊢
    rcases hp with rfl | rfl | rfl | rfl | rfl
    · exact .inr (.inr (.inl rfl))
    · exact .inl rfl
    · exact .inr (.inl rfl)
    · exact .inr (.inr (.inr (.inl rfl)))
    · exact .inr (.inr (.inr (.inr rfl)))
  · intro p hp
    simp only [List.mem_cons, List.not_mem_nil, or_false] at hp
    rcases hp with rfl | rfl | rfl | rfl
    · exact ne_off L 1 2 (by decide)
    · exact ne_far L D 2 l4 (by decide)
    · exact ne_off L 3 2 (by decide)
    · exact ne_off L 4 2 (by decide)
  intro o6 t6 h3 tk3 F3 N3 d6
  obtain ⟨md, hmd⟩ : ∃ md, 3 + (nl.sum.fdiv 81).fmod 127 * 2 = md := ⟨_, rfl⟩
  rw [hmd] at d6
  obtain ⟨m1, m2, m3⟩ := md_facts hmd
  refine law3 T F3 N3 (.head _) d6 ?_
  intro t7 h4 tk4 F4 N4
  refine law_from4 X T F4 (fun p hp => N4 p ?_) l4 e1 e2 d5 d6 hIw hl16 (ite_ne (by decide) ite_eq') ite_eq' m1 m2 m3 ?_
  · simp only [List.mem_cons, List.not_mem_nil, or_false] at hp ⊢
    rcases hp with rfl | rfl | rfl | rfl | rfl
    · exact .inr (.inr (.inr (.inl rfl)))
    · exact .inr (.inr (.inr (.inr rfl)))
    · exact .inr (.inr (.inl rfl))
    · exact .inl rfl
    · exact .inr (.inl rfl)
  · intro h' tk' kp
    exact hret h' tk' kp
end
theorem law_try : PySem.Challenge.rw_ny0004_01.Holds := by
  refine Mine.hd ?_
  k_fill
  intro w s₀ s₁ mg mb G Y fa o pm cd doc dV kV ho hd hcd hD hmg hg args vals as hpre hlay hrd hwl hlo
  have KX := kIn_of Y
  refine Ground.open G ?_
  intro T B D TE TW
  try (refine guard_noD D (by decide +kernel) ?_; clear D)
  clear hmg
  wrow_args hpre hlay hrd hwl hlo
  dsimp only
  refine wpC_call ?_
  have he := Dflts.none hD rfl
  subst he
  have he := Dflts.noKw hD
  subst he
  refine call_cells_C (by decide) ho (fd_plain hd) (Top.nolimit T) hcd rfl (kinds_of (by kinds_ok)) (by decide) fun h₁ tk₁ cells F N0 X0 => ?_
  cells_open X0
  clear hd X0
  rename_i c1 c2 c3 c4 d1 d2 d3 d4
  rename_i ns q1 q2 q3 q4 q5 q6 q7 l vs q8 hl q9 q10 q11 hI q12 hlen q13
  have hlen63 : ns.length ≤ 63 := by omega
  have F1 : Fr s₁.heap s₁.heap.objs.size h₁ (fun y => if y = Str.ofString "script" then some (Value.ref l) else none) := F
  have e1 : c1.data = Data.cell none := d1
  have e2 : c2.data = Data.cell none := d2
  have e3 : c3.data = Data.cell none := d3
  have e4 : c4.data = Data.cell none := d4
  clear F d1 d2 d3 d4
  refine LawAt.out (w := w) (L := s₁.heap.objs.size) (fa := fa) (cd := cd) (k := 0) ?_
  have N1 : News s₁.heap s₁.heap.objs.size h₁ [(s₁.heap.objs.size + 1, c4), (s₁.heap.objs.size + 2, c3), (s₁.heap.objs.size + 3, c2), (s₁.heap.objs.size + 4, c1)] := fun p hp => N0 p (by
    simp only [List.mem_cons, List.not_mem_nil, or_false] at hp ⊢
    rcases hp with rfl | rfl | rfl | rfl
    · exact .inr (.inr (.inr rfl))
    · exact .inr (.inr (.inl rfl))
    · exact .inr (.inl rfl)
    · exact .inl rfl)
  refine law_all KX T F1 N1 e1 e2 e3 e4 rfl hl hI hlen63 fun h' tk' kp => ?_
  refine GoodW.toG ⟨.inl ⟨.bool true, .bool true, [], rfl, ?hn, .bool true, ?hp, unshared_nil⟩, kp, rfl, hg⟩
  case hn => intro cls; with_unfolding_all rfl
  case hp => with_unfolding_all rfl
end Mine
end PartTF
open PySem PySem.W PyProof.Rows
theorem PySem.Challenge.cw_ny0004_01_holds : PySem.Challenge.rw_ny0004_01.Holds := by
  exact Mine.law_try
