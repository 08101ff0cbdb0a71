import PyProof.Rows.All
import Wide.All
import OpenK.AllK
import Wide.FinOn
import KE.KSlice
import KE.KEqDict
import KE.KEqSeq
import KE.KIsNot
import KE.KNestM
import Lean
import PySem.Challenge.RW_ci0023_01
open PySem PySem.W PySem.Calls PyProof.Rows PySem.Spec
set_option Elab.async false
set_option maxRecDepth 100000
set_option linter.all false
section
set_option autoImplicit false
namespace Nx

/-! ### the logic, with a word on the stack: n = true says that no collector's end is under way below -/
def NFc : Code → Bool
  | .builtin id _ => id != "lifetime.gc.finalise"
  | _ => true
def NF (n : Bool) (Γ : PySem.Ctx) : Prop := n = true → NFc Γ.code = true ∧ ∀ x ∈ Γ.below, NFc x.1 = true
theorem NF.enter {n : Bool} {Γ : PySem.Ctx} (h : NF n Γ) (c : Code) (hd : Option Value) (p : Pos) (hc : NFc c = true) : NF n (Γ.enter c hd p) := fun e =>
  ⟨hc, fun x hx => by
    rcases List.mem_cons.mp (show x ∈ (Γ.code, p) :: Γ.below from hx) with rfl | hx
    · exact (h e).1
    · exact (h e).2 x hx⟩
theorem NF.goto {n : Bool} {Γ : PySem.Ctx} (h : NF n Γ) (c : Code) (hc : NFc c = true) : NF n (Γ.goto c) := fun e => ⟨hc, (h e).2⟩

def wpN {α : Type} (n : Bool) (M : Model) (A : Around) (t : Sem α) (Q : α → Shared → Prop) (E : Value → Shared → Prop) (s : Shared) : Prop :=
  ∀ Γ p, Γ.In A → NF n Γ → Sem.wp M Γ t (fun a _ s' => Q a s') (fun e _ s' => E e s') p s
def codeN (n : Bool) (M : Model) (A : Around) (c : Code) (R : Result → Shared → Prop) (s : Shared) : Prop :=
  ∀ Γ p, Γ.code = c → Γ.Below A → NF n Γ → wpCode M Γ R p s

section
variable {α β : Type} {n : Bool} {M : Model} {A : Around} {E : Value → Shared → Prop} {s : Shared} {env : Env}

theorem wpN_of {t : Sem α} {Q : α → Shared → Prop} (h : wpAny M A t Q E s) : wpN n M A t Q E s := fun Γ p hΓ _ => h Γ p hΓ
theorem wpN_any {t : Sem α} {Q : α → Shared → Prop} (h : wpN false M A t Q E s) : wpAny M A t Q E s := fun Γ p hΓ => h Γ p hΓ fun e => nomatch e
theorem codeN_of {c : Code} {R : Result → Shared → Prop} (h : codeAny M A c R s) : codeN n M A c R s := fun Γ p hc hΓ _ => h Γ p hc hΓ
theorem codeN_any {c : Code} {R : Result → Shared → Prop} (h : codeN false M A c R s) : codeAny M A c R s := fun Γ p hc hΓ => h Γ p hc hΓ fun e => nomatch e
theorem wpN_pure {a : α} {Q : α → Shared → Prop} (h : Q a s) : wpN n M A (pure a) Q E s := fun _ _ _ _ => h
theorem wpN_throw {e : Value} {Q : α → Shared → Prop} (h : E e s) : wpN n M A (throw e : Sem α) Q E s := fun _ _ _ _ => h
theorem wpN_mono {t : Sem α} {Q Q' : α → Shared → Prop} {E' : Value → Shared → Prop} (h : wpN n M A t Q E s) (hQ : ∀ a s, Q a s → Q' a s) (hE : ∀ e s, E e s → E' e s) : wpN n M A t Q' E' s :=
  fun Γ p hΓ hn => Sem.wp_mono M Γ t (fun a _ s => hQ a s) (fun e _ s => hE e s) p s (h Γ p hΓ hn)
theorem wpN_bind {m : Sem α} {f : α → Sem β} {Q : β → Shared → Prop} (h : wpN n M A m (fun a s' => wpN n M A (f a) Q E s') E s) : wpN n M A (m >>= f) Q E s := fun Γ p hΓ hn => by
  rw [Sem.wp_bind']
  exact Sem.wp_mono M Γ m (fun a p' s' h' => h' Γ p' hΓ hn) (fun _ _ _ h' => h') p s (h Γ p hΓ hn)
/-- a pure part, then the rest -/
theorem wpN_then {m : Sem α} {f : α → Sem β} {Q : β → Shared → Prop} (h : wpAny M A m (fun a s' => wpN n M A (f a) Q E s') E s) : wpN n M A (m >>= f) Q E s := wpN_bind (wpN_of h)
theorem wpN_onRaise {m : Sem α} {k : Value → Sem Unit} {Q : α → Shared → Prop} (h : wpN n M A m Q (fun e s' => wpN n M A (k e) (fun _ s'' => E e s'') E s') s) : wpN n M A (m.onRaise k) Q E s := fun Γ p hΓ hn => by
  rw [Sem.wp_onRaise]
  exact Sem.wp_mono M Γ m (fun _ _ _ h' => h') (fun e p' s' h' => h' Γ p' hΓ hn) p s (h Γ p hΓ hn)
theorem wpN_attempt {m : Sem α} {Q : Except Value α → Shared → Prop} (h : wpN n M A m (fun a => Q (.ok a)) (fun e => Q (.error e)) s) : wpN n M A m.attempt Q E s := fun Γ p hΓ hn => by rw [Sem.wp_attempt]; exact h Γ p hΓ hn
theorem wpN_holding {vs : List Value} {m : Sem α} {Q : α → Shared → Prop} (h : wpN n M A m Q E s) : wpN n M A (holding vs m) Q E s := fun Γ p hΓ hn => by rw [Sem.wp_holding]; exact h Γ p hΓ hn
theorem wpN_keep {vs : List Value} {m : Sem α} {Q : α → Shared → Prop} (h : wpN n M A m Q E s) : wpN n M A (m.keep vs) Q E s := fun Γ p hΓ hn => by rw [Sem.wp_keep]; exact h Γ p hΓ hn
theorem wpN_operate {vs : List Value} {m : Sem Value} {Q : Value → Shared → Prop} (h : wpN n M A m Q E s) : wpN n M A (operate vs m) Q E s := fun Γ p hΓ hn => by rw [Sem.wp_operate]; exact h Γ p hΓ hn
theorem wpN_release {vs ks : List Value} {Q : Unit → Shared → Prop} (h : Q () s) : wpN n M A (release vs ks) Q E s := fun Γ p hΓ hn => by rw [Sem.wp_release]; exact h
theorem wpN_bindName {x : Str} {v : Value} {Q : Unit → Shared → Prop} (h : wpN n M A (storeName env x v) Q E s) : wpN n M A (bindName env x v) Q E s := fun Γ p hΓ hn => by rw [Sem.wp_bindName]; exact h Γ p hΓ hn
theorem wpN_standAt {pos : Pos} {Q : Unit → Shared → Prop} (h : Q () s) : wpN n M A (standAt pos) Q E s := fun _ _ _ _ => h
theorem wpN_point {Q : Unit → Shared → Prop} (h : Q () s) : wpN n M A point Q E s := fun _ _ _ _ => h
theorem wpN_run {c : Code} {h : Option Value} {Q : Flow → Shared → Prop} (hc : codeN n M (A.mark h) c (fun r s' => match r with | .ok f => Q f s' | .error e => E e s') s) (hcN : NFc c = true := by rfl) (hnb : h ≠ some byPass := by intro x; cases x) : wpN n M A (run c h) Q E s :=
  fun Γ p hΓ hn => by rw [Sem.wp_run]; exact hc _ p rfl (hΓ.enter c h p hnb) (hn.enter c h p hcN)
theorem wpN_runValue {c : Code} {Q : Value → Shared → Prop} (hc : codeN n M A c (fun r s' => match r with | .ok (.ret v) => Q v s' | .ok _ => False | .error e => E e s') s) (hcN : NFc c = true) : wpN n M A (runValue c) Q E s := fun Γ p hΓ hn => by
  rw [Sem.wp_runValue]; exact hc _ p rfl (hΓ.enter c none p (by intro x; cases x)) (hn.enter c none p hcN)
theorem wpN_call {f : Value} {pos : List Value} {kw : List (Str × Value)} {Q : Value → Shared → Prop} (hc : codeN n M A (.call f ⟨pos, kw⟩) (fun r s' => match r with | .ok (.ret v) => Q v s' | .ok _ => False | .error e => E e s') s) : wpN n M A (call f pos kw) Q E s := wpN_runValue hc rfl
theorem codeN_mono {c : Code} {R R' : Result → Shared → Prop} (h : codeN n M A c R s) (hR : ∀ r s, R r s → R' r s) : codeN n M A c R' s := fun Γ p hc hΓ hn => wpCode_mono hR (h Γ p hc hΓ hn)
theorem codeN_of_tree {c : Code} {R : Result → Shared → Prop}
    (h : wpN n M (A.under c) (M.den c) (fun fin s' => match fin with | .done f => R (.ok f) s' | .again c' => c'.quiet = true ∧ NFc c' = true ∧ codeN n M A c' R s') (fun e s' => R (.error e) s') s) : codeN n M A c R s := fun Γ p hc hΓ hn => by
  rw [wpCode_iff_wp, hc]
  refine Sem.wp_mono M Γ _ (fun fin p' s' h' => ?_) (fun _ _ _ h' => h') p s (h Γ p (hc ▸ hΓ.in) hn)
  cases fin with
  | done f => exact h'
  | again c' => exact ⟨h'.1, h'.2.2 (Γ.goto c') p' rfl (hΓ.goto c') (hn.goto c' h'.2.1)⟩

/-! expressions and statements -/
theorem wpN_execs_cons {st : Stmt} {rest : List Stmt} {Q : Flow → Shared → Prop} (h : wpN n M A (exec st env) (fun f s' => match f with | .next => wpN n M A (execs rest env) Q E s' | f => Q f s') E s) : wpN n M A (execs (st :: rest) env) Q E s := by
  rw [execs_cons]
  refine wpN_bind (wpN_mono h (fun f s' h' => ?_) fun _ _ z => z)
  cases f <;> first | exact h' | exact wpN_pure h'
theorem wpN_items_cons {pos : Pos} {e : Expr} {rest : List Expr} {Q : List Value → Shared → Prop} (h : wpN n M A (eval e env) (fun v s₁ => wpN n M A (spliced (backTo pos (starEach rest env))) (fun vs s₂ => Q (v :: vs) s₂) E s₁) E s)
    (he : starEach (e :: rest) env = (false, eval e env) :: starEach rest env) : wpN n M A (spliced (backTo pos (starEach (e :: rest) env))) Q E s := by
  rw [he]
  show wpN n M A (do
    let v ← eval e env
    let here ← (pure [v] : Sem (List Value))
    return here ++ (← holding here (spliced (backTo pos (starEach rest env))))) Q E s
  exact wpN_bind (wpN_mono h (fun v s₁ h₁ => wpN_bind (wpN_pure (wpN_bind (wpN_holding (wpN_mono h₁ (fun vs s₂ h₂ => wpN_pure h₂) fun _ _ x => x))))) fun _ _ x => x)
theorem wpN_Assign_Name {x : Str} {pos' pos : Pos} {value : Expr} {Q : Flow → Shared → Prop} (h : wpN n M A (eval value env) (fun v s₁ => wpN n M A (storeName env x v) (fun _ => Q .next) E s₁) E s) (hs : swapsWith value (some (.Name x pos')) pos.line env = pure false) :
    wpN n M A (exec (.Assign [.Name x pos'] value pos) env) Q E s := by
  rw [exec_Assign_Name env x pos' value pos hs]
  exact wpN_bind (wpN_standAt (wpN_bind (wpN_mono h (fun v s₁ h₁ => wpN_bind (wpN_standAt (wpN_bind (wpN_bindName (wpN_mono h₁ (fun _ _ z => wpN_pure z) fun _ _ z => z))))) fun _ _ z => z)))
theorem wpN_Return_some {e : Expr} {pos : Pos} {Q : Flow → Shared → Prop} (h : wpN n M A (eval e env) (fun v => Q (.ret v)) E s) : wpN n M A (exec (.Return (some e) pos) env) Q E s := by
  rw [exec_Return_some]
  exact wpN_bind (wpN_standAt (wpN_bind (wpN_mono h (fun _ _ z => wpN_pure z) fun _ _ z => z)))
theorem wpN_If {test : Expr} {body orelse : List Stmt} {pos : Pos} {Q : Flow → Shared → Prop} (h : wpN n M A (isTrue test env (eval test env)) (fun b s₂ => if b = true then wpN n M A (execs body env) Q E s₂ else wpN n M A (execs orelse env) Q E s₂) E s) :
    wpN n M A (exec (.If test body orelse pos) env) Q E s := by
  rw [exec_If]
  refine wpN_bind (wpN_standAt (wpN_bind (wpN_mono h (fun b s₂ h₂ => ?_) fun _ _ z => z)))
  cases b <;> exact h₂
theorem wpN_Expr {e : Expr} {pos : Pos} {Q : Flow → Shared → Prop} (h : wpN n M A (eval e env) (fun v s' => match v with | .ref _ => False | _ => Q .next s') E s) (hi : interactive env = false) (hs : swapsWith e none pos.line env = pure false) :
    wpN n M A (exec (.Expr e pos) env) Q E s := by
  rw [exec_Expr env e pos hi hs]
  refine wpN_bind (wpN_standAt (wpN_bind (wpN_mono h (fun v s' h' => ?_) fun _ _ x => x)))
  have hv : ∀ a, v ≠ .ref a := fun a hva => by subst hva; exact h'
  rw [dropValue_plain hv]
  refine wpN_pure ?_
  cases v <;> first | exact h' | exact (hv _ rfl).elim
theorem wpN_Assign_Subscript {o i value : Expr} {pos' pos : Pos} {Q : Flow → Shared → Prop} (h : wpN n M A (eval value env) (fun v s₁ => wpN n M A (eval o env) (fun ov s₂ => wpN n M A (eval i env) (fun iv s₃ => wpN n M A (setItem ov iv v) (fun _ => Q .next) E s₃) E s₂) E s₁) E s)
    (hs : swapsWith value (some (.Subscript o i pos')) pos.line env = pure false) : wpN n M A (exec (.Assign [.Subscript o i pos'] value pos) env) Q E s := by
  rw [exec_Assign_Subscript o i pos' value pos hs]
  refine wpN_bind (wpN_standAt (wpN_bind (wpN_mono h (fun v s₁ h₁ => ?_) fun _ _ z => z)))
  refine wpN_bind ?_
  rw [assign_Subscript]
  refine wpN_bind (wpN_holding (wpN_mono h₁ (fun ov s₂ h₂ => ?_) fun _ _ z => z))
  refine wpN_bind (wpN_holding (wpN_mono h₂ (fun iv s₃ h₃ => ?_) fun _ _ z => z))
  refine wpN_bind (wpN_standAt (wpN_bind (wpN_holding (wpN_mono h₃ (fun _ s₄ h₄ => ?_) fun _ _ z => z))))
  exact wpN_release (wpN_pure h₄)

/-! calls -/
theorem callWith_ofN {f : Value} {first : List Value} {pos : Pos} {P : Heap → Prop} {args : List (Bool × Sem Value)} {keywords : List (Option Str × Sem Value)} {Q : Value → Shared → Prop} (hplain : (args.any (·.1) || keywords.any (·.1.isNone)) = false)
    (hk : ∀ h, P h → ∃ k, (k = Keeper.frame ∨ k = Keeper.machine ∨ k = Keeper.boundFrame) ∧ Looks M h (keeperOf f) k)
    (h : wpN n M A (evalArgs f true args keywords) (fun a s₁ => P s₁.heap ∧ wpN n M A (call f (first ++ a.pos) a.kw) Q E s₁) E s) : wpN n M A (callWith pos f first args keywords) Q E s := by
  unfold callWith
  refine wpN_bind (wpN_holding (wpN_mono h (fun a s₁ h₁ => wpN_bind (wpN_standAt ?_)) fun _ _ x => x))
  obtain ⟨k, hk', L⟩ := hk _ h₁.1
  simp only [hplain]
  refine wpN_then (L.here ?_)
  have tail : ∀ {t : Sem Value}, wpN n M A t Q E s₁ → wpN n M A (t >>= fun r => holding [r] point >>= fun _ => pure r) Q E s₁ :=
    fun ht => wpN_bind (wpN_mono ht (fun r s₂ hr => wpN_bind (wpN_holding (wpN_point (wpN_pure hr)))) fun _ _ x => x)
  have marked (mk : Value) : wpN n M A (callMarked mk f (first ++ a.pos) a.kw) Q E s₁ := by unfold callMarked; exact wpN_keep h₁.2
  rcases hk' with rfl | rfl | rfl <;> dsimp only <;> first | exact tail h₁.2 | (split <;> first | exact tail h₁.2 | exact tail (marked _))
theorem evalArgs_N {f : Value} {trees : List (Bool × Sem Value)} {kws : List (Option Str × Sem Value)} {Q : Args → Shared → Prop} (hp : trees.any (·.1) = false) (hk : kws.all (·.1.isSome) = true)
    (h : wpN n M A (spliced trees) (fun vs s₁ => wpN n M A (evalAll (kws.map (·.2))) (fun ks s₂ => Q ⟨vs, (kws.filterMap (·.1)).zip ks⟩ s₂) E s₁) E s) : wpN n M A (evalArgs f true trees kws) Q E s := by
  have fin : ∀ vs s₁, wpN n M A (evalAll (kws.map (·.2))) (fun ks s₂ => Q ⟨vs, (kws.filterMap (·.1)).zip ks⟩ s₂) E s₁ → wpN n M A (evalAll (kws.map (·.2))) (fun ks s₂ => wpN n M A (do let kw ← (pure ((kws.filterMap (·.1)).zip ks) : Sem _); pure (⟨vs, kw⟩ : Args)) Q E s₂) E s₁ := fun vs s₁ h₁ =>
    wpN_mono h₁ (fun ks s₂ h₂ => wpN_bind (wpN_pure (wpN_pure h₂))) fun _ _ z => z
  unfold evalArgs
  rcases trees with _ | ⟨⟨b, t⟩, _ | ⟨y, r⟩⟩
  · refine wpN_bind (wpN_mono h (fun vs s₁ h₁ => ?_) fun _ _ z => z)
    refine wpN_bind (wpN_pure (wpN_holding ?_))
    rw [if_pos hk]
    exact wpN_bind (fin vs s₁ h₁)
  · obtain rfl : b = false := by simpa using hp
    refine wpN_bind (m := spliced [(false, t)]) (wpN_mono h (fun vs s₁ h₁ => ?_) fun _ _ z => z)
    refine wpN_bind (wpN_pure (wpN_holding ?_))
    rw [if_pos hk]
    exact wpN_bind (fin vs s₁ h₁)
  · obtain rfl : b = false := by
      simp only [List.any_cons, Bool.or_eq_false_iff] at hp
      exact hp.1
    refine wpN_bind (m := spliced ((false, t) :: y :: r)) (wpN_mono h (fun vs s₁ h₁ => ?_) fun _ _ z => z)
    refine wpN_bind (wpN_pure (wpN_holding ?_))
    rw [if_pos hk]
    exact wpN_bind (fin vs s₁ h₁)
end

section
variable {n : Bool} {prog : Program} {w : World} {A : Around} {E : Value → Shared → Prop} {s : Shared} {env : Env} {R : Result → Shared → Prop}
theorem codeN_call_function {a : Addr} {args : Args} {o : Obj} {fd : FuncData} {body : List Stmt} (hroom : A.depth < recursionLimit)
    (ho : s.heap.get? a = some o) (hd' : o.data = .func fd) (hco : fd.scope.isCoroutine = false) (hgen : fd.scope.isGenerator = false) (hbody : fd.body = .stmts body) (hcd : s.heap.CodeRec fd.code fd.qualname)
    (h : wpAny (model prog w) A.in1 (bindArgs fd args) (fun binds s₁ =>
      wpAny (model prog w) A.in1 (newFunctionEnv fd.scope fd.globals fd.closure binds (fd.qualname ++ ".<locals>.") (some a) fd.code none fd.builtins)
        (fun env s₂ => s₂.heap.NoLimit ∧ codeN n (model prog w) A (.func body env) R s₂) (fun e s' => R (.error e) s') s₁) (fun e s' => R (.error e) s') s) :
    codeN n (model prog w) A (.call (.ref a) args) R s := by
  refine codeN_of_tree ?_
  show wpN n _ A.in1 (callAny (.ref a) args) _ _ s
  simp only [callAny]
  refine wpN_then (wpAny_load ho ?_)
  obtain ⟨c, oc, vs, tq, hc, hoc, hdc, hq⟩ := hcd
  simp only [hd', callFunction, hco, hgen, hbody, hc]
  rw [hc] at h
  refine wpN_then (m := field (.ref c) 1) (wpAny_field hoc hdc hq (wpN_bind (wpN_pure ?_)))
  exact wpN_then (wpAny_mono h (fun binds s₁ h₁ => wpN_then (wpAny_mono h₁ (fun env s₂ h₂ => wpN_then (wpAny_enterFrame h₂.1 hroom (wpN_pure ⟨rfl, rfl, h₂.2⟩))) fun _ _ h' => h')) fun _ _ h' => h')
theorem codeN_func {body : List Stmt} {env : Env}
    (h : wpN n (model prog w) (A.deeper env) (execs body env) (fun f s' => R (.ok (.ret (match f with | .ret v => v | _ => .none))) s')
      (fun e s' => wpAny (model prog w) (A.deeper env) (leaving env e) (fun _ s'' => R (.error e) s'') (fun e' s'' => R (.error e') s'') s') s) : codeN n (model prog w) A (.func body env) R s := by
  refine codeN_of_tree ?_
  show wpN n _ (A.deeper env) (do point; match ← (execs body env).onRaise (leaving env) with | .ret v => ret v | _ => ret .none) _ _ s
  refine wpN_bind (wpN_point (wpN_bind (wpN_onRaise (wpN_mono h (fun f s' h' => ?_) fun _ _ h' => wpN_of h'))))
  cases f <;> exact wpN_pure h'

/-! for-loops that never raise -/
theorem wpN_notedF {α : Type} {t : Sem α} {k : Value → Sem Unit} {Q : α → Shared → Prop} (h : wpN n (model prog w) A t Q (fun _ _ => False) s) : wpN n (model prog w) A (t.onRaise k) Q E s := wpN_onRaise (wpN_mono h (fun _ _ z => z) fun _ _ z => z.elim)
theorem codeN_forLoop {target : Expr} {it : Value} {body : List Stmt} {env : Env} (I : Nat → Shared → Prop)
    (turn : ∀ k s, I k s → wpN n (model prog w) A (pyNext it) (fun r s₁ => match r with
      | none => R (.ok .next) s₁
      | some v => wpN n (model prog w) A (letOwnedTupleGo target it v) (fun _ s₁' =>
          wpN n (model prog w) A (assign target env v) (fun _ s₂ => wpN n (model prog w) A (execs body env) (fun f s₃ => match f with
            | .next | .cont => ∃ m, m < k ∧ I m s₃
            | .brk => R (.ok .next) s₃
            | .ret v => R (.ok (.ret v)) s₃) (fun _ _ => False) s₂) (fun _ _ => False) s₁') (fun _ _ => False) s₁) (fun _ _ => False) s)
    (k : Nat) (h : I k s) : codeN n (model prog w) A (.forLoop target it body [] env) R s := by
  induction k using Nat.strongRecOn generalizing s with
  | ind k ih =>
    refine codeN_of_tree ?_
    show wpN n _ A ((forTurn target it body [] env).onRaise (fun x => do noteFrame x env; theTreesLotGoes x)) _ _ s
    refine wpN_notedF ?_
    simp only [forTurn]
    refine wpN_bind (wpN_standAt (wpN_bind (wpN_notedF (wpN_mono (turn k s h) (fun r s₁ h₁ => ?_) fun _ _ z => z))))
    cases r with
    | none =>
      refine wpN_pure ⟨rfl, rfl, codeN_of (codeAny_block (wpAny_execs_nil h₁))⟩
    | some v =>
      refine wpN_bind (wpN_mono h₁ (fun _ s₁' h₁' => ?_) fun _ _ h' => h')
      refine wpN_bind (wpN_mono h₁' (fun _ s₂ h₂ => wpN_bind (wpN_mono h₂ (fun f s₃ h₃ => ?_) fun _ _ h' => h')) fun _ _ h' => h')
      cases f with
      | next => obtain ⟨m, hm, hI⟩ := h₃; exact wpN_pure ⟨rfl, rfl, ih m hm hI⟩
      | cont => obtain ⟨m, hm, hI⟩ := h₃; exact wpN_pure ⟨rfl, rfl, ih m hm hI⟩
      | brk => exact wpN_pure h₃
      | ret v => exact wpN_pure h₃
theorem wpN_For {target iter : Expr} {body : List Stmt} {pos : Pos} {Q : Flow → Shared → Prop}
    (h : wpN n (model prog w) A (eval iter env) (fun x s₁ => wpN n (model prog w) A (pyIter x) (fun it s₂ => codeN n (model prog w) A (.forLoop target it body [] env) (fun r s' => match r with | .ok f => Q f s' | .error _ => False) s₂) E s₁) E s)
    (hs : ∀ x, foldedSetIterable iter env x = pure x) : wpN n (model prog w) A (exec (.For target iter body [] pos) env) Q E s := by
  rw [exec_For]
  refine wpN_bind (wpN_standAt (wpN_bind (wpN_mono h (fun x s₁ h₁ => ?_) fun _ _ h' => h')))
  rw [hs x]
  refine wpN_bind (wpN_pure (wpN_bind (wpN_standAt (wpN_bind (wpN_holding (wpN_mono h₁ (fun it s₂ h₂ => ?_) fun _ _ h' => h'))))))
  unfold runOwn
  exact wpN_onRaise (wpN_run (codeN_mono h₂ fun r s' z => by cases r <;> first | exact z | exact z.elim))

/-! try -/
theorem wpN_Try {body orelse : List Stmt} {h₀ : ExceptHandler} {hs : List ExceptHandler} {pos : Pos} {Q : Flow → Shared → Prop}
    (h : wpN n (model prog w) A (execs body env) (fun f s₁ => match f with | .next => wpN n (model prog w) A (execs orelse env) Q E s₁ | f => Q f s₁)
      (fun e s₁ => wpAny (model prog w) A (noteFrame e env) (fun _ s₂ => wpAny (model prog w) A (setFlight e none) (fun _ s₃ => wpN n (model prog w) A (handleBy e env (h₀ :: hs)) Q E s₃) E s₂) E s₁) s) :
    wpN n (model prog w) A (exec (.Try body (h₀ :: hs) orelse [] pos) env) Q E s := by
  rw [arm_exec_Try]
  refine wpN_bind (wpN_standAt ?_)
  unfold tryStmt
  simp only [List.isEmpty_nil, if_true, List.isEmpty_cons, Bool.false_and, Bool.false_eq_true, if_false]
  refine wpN_bind (wpN_attempt (wpN_mono h (fun f s₁ h₁ => ?_) fun e s₁ h₁ => ?_))
  · cases f <;> first | exact h₁ | exact wpN_pure h₁
  · exact wpN_then (wpAny_mono h₁ (fun _ _ h₂ => wpN_then h₂) fun _ _ x => x)
/-- the clause, where the test is a leaf -/
theorem wpN_handleBy_cons {e : Value} {t : Expr} {name : Option Str} {body : List Stmt} {pos : Pos} {rest : List ExceptHandler} {Q : Flow → Shared → Prop}
    (h : codeAny (model prog w) (A.mark (some e)) (.handlers e [.ExceptHandler (some t) none [] pos] env) (fun r s₁ => match r with
      | .ok .brk => codeN n (model prog w) (A.mark (some e)) (.handlers e [.ExceptHandler none name body pos] env) (fun r s₂ => match r with
          | .ok f => (match name with
            | none => Q f s₂
            | some n => wpAny (model prog w) A (do bindName env n .none; unbindBehindTheSuite env n pos) (fun _ s₃ => Q f s₃) E s₂)
          | .error x => cameBackBy (model prog w) A env E x s₂) s₁
      | .ok _ => wpN n (model prog w) A (handleBy e env rest) Q E s₁
      | .error x => cameBackBy (model prog w) A env E x s₁) s) (hnb : e ≠ byPass) :
    wpN n (model prog w) A (handleBy e env (.ExceptHandler (some t) name body pos :: rest)) Q E s := by
  rw [handleBy]
  have hnb' : (some e : Option Value) ≠ some byPass := fun x => hnb (Option.some.inj x)
  have own : ∀ {c : Code} {Q' : Flow → Shared → Prop} {s : Shared}, NFc c = true → codeN n (model prog w) (A.mark (some e)) c (fun r s' => match r with | .ok f => Q' f s' | .error x => cameBackBy (model prog w) A env E x s') s → wpN n (model prog w) A (runOwn c env (some e)) Q' E s := fun hc h => by
    unfold runOwn
    exact wpN_onRaise (wpN_run (codeN_mono h fun r s' z => by
      cases r with
      | ok f => exact z
      | error x => exact wpN_of z) hc hnb')
  refine wpN_bind (wpN_holding (own rfl (codeN_mono (codeN_of h) (fun r s₁ h₁ => ?_))))
  cases r with
  | error x => exact h₁
  | ok f =>
    cases f with
    | brk =>
      refine wpN_bind (wpN_pure ?_)
      simp only [Bool.not_true, Bool.false_eq_true, if_false]
      refine wpN_bind (wpN_holding (own rfl (codeN_mono h₁ (fun r s₂ h₂ => ?_))))
      cases r with
      | error x => exact h₂
      | ok f =>
        cases name with
        | none => exact wpN_pure h₂
        | some n => exact wpN_bind (wpN_holding (wpN_mono (wpN_of h₂) (fun _ s₃ h₃ => wpN_pure h₃) fun _ _ x => x))
    | _ =>
      refine wpN_bind (wpN_pure ?_)
      simp only [Bool.not_false, if_true]
      exact h₁
theorem wpN_noted {α : Type} {m : Sem α} {Q : α → Shared → Prop} (h : wpN n (model prog w) A m Q (notedBy (model prog w) A env E) s) : wpN n (model prog w) A (m.onRaise fun x => do noteFrame x env; theTreesLotGoes x) Q E s :=
  wpN_onRaise (wpN_mono h (fun _ _ q => q) fun _ _ hx => wpN_then (wpAny_mono hx (fun _ _ e => wpN_of (wpAny_theTreesLotGoes e)) fun _ _ e => e))
theorem codeN_handlers_suite {e : Value} {b₀ : Stmt} {body : List Stmt} {pos : Pos}
    (h : wpAny (model prog w) A (setFlight e none) (fun _ s₁ => wpN n (model prog w) A (execs (b₀ :: body) env) (fun f s₂ => R (.ok f) s₂) (notedBy (model prog w) A env fun x s₂ => R (.error x) s₂) s₁) (notedBy (model prog w) A env fun x s₁ => R (.error x) s₁) s) :
    codeN n (model prog w) A (.handlers e [.ExceptHandler none none (b₀ :: body) pos] env) R s := by
  refine codeN_of_tree ?_
  show wpN n _ A (do return Fin.done (← (handleWith e env [.ExceptHandler none none (b₀ :: body) pos]).onRaise (fun x => do noteFrame x env; theTreesLotGoes x))) _ _ s
  refine wpN_bind (wpN_noted ?_)
  unfold handleWith
  exact wpN_bind (wpN_standAt (wpN_then (wpAny_mono h (fun _ s₁ h₁ => wpN_mono h₁ (fun f s₂ h₂ => wpN_pure h₂) fun _ _ x => x) fun _ _ x => x)))
theorem codeN_handlers_suite_as {e : Value} {nm : Str} {b₀ : Stmt} {body : List Stmt} {pos : Pos}
    (h : wpAny (model prog w) A (setFlight e none) (fun _ s₁ => wpAny (model prog w) A (storeName env nm e) (fun _ s₂ =>
        wpN n (model prog w) A (execs (b₀ :: body) env) (fun f s₃ => R (.ok f) s₃)
          (AsSuiteRaised (model prog w) A env nm pos (notedBy (model prog w) A env fun x s' => R (.error x) s')) s₂)
        (notedBy (model prog w) A env fun x s' => R (.error x) s') s₁) (notedBy (model prog w) A env fun x s' => R (.error x) s') s) :
    codeN n (model prog w) A (.handlers e [.ExceptHandler none (some nm) (b₀ :: body) pos] env) R s := by
  refine codeN_of_tree ?_
  show wpN n _ A (do return Fin.done (← (handleWith e env [.ExceptHandler none (some nm) (b₀ :: body) pos]).onRaise (fun x => do noteFrame x env; theTreesLotGoes x))) _ _ s
  refine wpN_bind (wpN_noted ?_)
  unfold handleWith
  refine wpN_bind (wpN_standAt (wpN_then (wpAny_mono h (fun _ s₁ h₁ => ?_) fun _ _ x => x)))
  refine wpN_then (wpAny_bindName (wpAny_mono h₁ (fun _ s₂ h₂ => ?_) fun _ _ x => x))
  refine wpN_bind (wpN_attempt (wpN_mono h₂ (fun f s₃ h₃ => wpN_pure (wpN_pure h₃)) fun x s₃ h₃ => ?_))
  refine wpN_then (wpAny_mono h₃ (fun _ s₃' h₄ => ?_) fun _ _ y => y)
  refine wpN_bind (wpN_holding (wpN_onRaise (wpN_mono (wpN_of h₄) (fun _ s₄ h₅ => ?_) fun _ _ y => wpN_of y)))
  exact wpN_mono (wpN_of h₅) (fun _ _ hf => hf.elim) fun _ _ y => y
end
end Nx
end
section
set_option autoImplicit false
namespace Nx

/-- abstract values: tokens are struck; tuples and small frozen dicts are their contents -/
inductive AV where
  | none
  | bool (b : Bool)
  | int (i : Int)
  | str (x : Str)
  | ref (a : Addr)
  | con (v : Value)
  | tup (l : List AV)
  | fd (l : List (Str × Int))
deriving Inhabited

/-- what the frozen addresses hold -/
abbrev WM := Addr → Option AV

def VR (W : WM) (v : Value) : AV → Prop
  | .none => v = .none
  | .bool b => v = .bool b
  | .int i => ∃ t, v = .int i t
  | .str x => ∃ t, v = .str x t
  | .ref a => v = .ref a
  | .con c => v = c
  | .tup l => ∃ a, v = .ref a ∧ W a = some (.tup l)
  | .fd l => ∃ a, v = .ref a ∧ W a = some (.fd l)

def OV (W : WM) : Option Value → Option AV → Prop
  | .none, .none => True
  | some v, some a => VR W v a
  | _, _ => False

inductive All2 {α β : Type} (R : α → β → Prop) : List α → List β → Prop where
  | nil : All2 R [] []
  | cons {x y xs ys} : R x y → All2 R xs ys → All2 R (x :: xs) (y :: ys)

inductive AObj where
  | inst (C d : Addr)
  | slot1 (C d : Addr) (v : AV)
  | dI (l : List (Int × AV))
  | dS (l : List (Str × AV))
  | nS (l : List (Str × AV))
  | dP (l : List ((Int × Int) × AV))
  | list (l : List AV)
  | rcd (cls : Value) (l : List AV)
  | gen (gi : Nat) (P : GenState → Prop)
  | rng (n : Int)
  | itm (d : Addr) (i n ep : Nat)
  | itmo (d : Addr) (i n ep : Nat) (a : Addr)
  | otup (l : List AV)
  | loc (m : Str → Option AV)
  | raw (ob : Obj)
  | pin (ob : Obj) (a : AObj)
deriving Inhabited

structure Tag where
  own : Nat
  role : Nat
  key : List Int := []
deriving DecidableEq, Inhabited

abbrev AHeap := Addr → Option (Tag × AObj)
abbrev LM := Str → Option AV

/-- what stands: the program, the world, the heap ahead of the law's call, the part of it that is known -/
structure Cx where
  prog : Program
  w : World
  base : Heap
  os : OsState
  K : Frag
  mg : Str → Option Value
  mb : Str → Option Value
  kin : ∀ a o, K.lookup a = some o → base.get? a = some o ∧ (o.cls ≠ .none ∨ a = cStatics)
  stat : ∃ o, base.get? cStatics = some o
  lim : base.NoLimit
  thr : ∃ mc, base.Ns cStatics mc ∧ mc "_thread.count" = none
  tabs : List (Addr × Addr)
  tabsOk : ∀ q ∈ tabs, CodeHd base q.1 q.2 ∧ base.get? q.2 = some (tabObj #[]) ∧ q.2 ≠ cStatics
  gns : base.Ns mainGlobals mg
  bns : base.Ns builtinsNs mb
  bmod : ∃ bm ob, BMod base mainGlobals mg bm ob
abbrev Cx.M (c : Cx) : Model := model c.prog c.w

def KV {κ : Type} (W : WM) : List (κ × Value) → List (κ × AV) → Prop := All2 fun p q => p.1 = q.1 ∧ VR W p.2 q.2

def pairKey (p : Int × Int) : List Int := [p.1, p.2]

def PK (W : WM) : List (List Int × Addr × Value) → List ((Int × Int) × AV) → Prop :=
  All2 fun x q => x.1 = pairKey q.1 ∧ W x.2.1 = some (.tup [.int q.1.1, .int q.1.2]) ∧ VR W x.2.2 q.2

def OR (c : Cx) (W : WM) (ob : Obj) : AObj → Prop
  | .inst C d => ob = instObj C d
  | .slot1 C d v => ∃ v', ob = { cls := .ref C, dict := some d, data := .plain, slots := #[some v'] } ∧ VR W v' v
  | .dI l => ∃ kvs, ob.IsDictOf (intKind c.prog c.w) kvs ∧ KV W kvs l ∧ l.length ≤ 1000
  | .dS l => ∃ kvs, ob.IsDictOf (strKind c.prog c.w) kvs ∧ KV W kvs l ∧ l.length ≤ 1000
  | .nS l => ∃ kvs es ep, (ob.cls = .type "dict" ∧ ob.dict = none ∧ ob.data = .dict es ep) ∧ KeysOf (strKind c.prog c.w) es ∧ Pairs (strKind c.prog c.w) es.toList kvs ∧ (kvs.map (·.1)).Nodup ∧ KV W kvs l ∧ l.length ≤ 1000
  | .dP l => ∃ xs es ep, ob.ExactDict ∧ ob.data = .dict es ep ∧ es.toList = xs.map (entryOfKey (tupleKind (intKind c.prog c.w))) ∧ (xs.map (·.1)).Nodup ∧ PK W xs l ∧ l.length ≤ 1000
  | .list l => ∃ vs n, (ob.cls = .type "list" ∧ ob.data = .seq vs.toArray n) ∧ All2 (VR W) vs l ∧ l.length ≤ 1000
  | .rcd cls l => ∃ vs : List Value, (ob.cls = cls ∧ ob.data = .fields vs.toArray) ∧ All2 (VR W) vs l
  | .gen gi _ => ∃ nm qn, ob = { cls := .type "generator", data := .fields #[.int gi 0, nm, qn] }
  | .rng n => ∃ t u v, ob = { cls := .type "range", dict := none, data := .fields #[.int 0 t, .int n u, .int 1 v], slots := #[] }
  | .itm d i n ep => ∃ ok ov, ob = { cls := .type "dict_itemiterator", dict := none, data := .fields #[.none, .bool false, .ref d, .int i 0, .int n 0, .int ep 0, ok, ov], slots := #[] }
  | .itmo d i n ep a => ∃ ok ov, ob = { cls := .type "dict_itemiterator", dict := none, data := .fields #[rawInt a, .bool false, .ref d, .int i 0, .int n 0, .int ep 0, ok, ov], slots := #[] }
  | .otup l => ∃ vs n, ob = { cls := .type "tuple", data := .seq vs.toArray n } ∧ All2 (VR W) vs l
  | .loc m => ∃ es ep, ob.data = .dict es ep ∧ StrKeys es ∧ ∀ x, OV W (nsFind es x) (m x)
  | .raw o => ob = o
  | .pin o a => ob = o ∧ OR c W o a

def FR (c : Cx) (W : WM) (ob : Obj) : AV → Prop
  | .tup l => ∃ vs n, ob = { cls := .type "tuple", data := .seq vs.toArray n } ∧ All2 (VR W) vs l
  | .fd l => ∃ kvs, ob.IsDictOf (strKind c.prog c.w) kvs ∧ KV W kvs (l.map fun p => (p.1, AV.int p.2)) ∧ l.length ≤ 1000
  | _ => False

/-- what stood, stands; the tables of the codes that make codes may have grown -/
structure OldT (c : Cx) (h : Heap) : Prop where
  k : OldK c.base h
  t : ∀ q ∈ c.tabs, ∃ ps, h.get? q.2 = some (tabObj ps) ∧ TriplesOk ps.toList
theorem OldT.step_keeps {c : Cx} {h h' : Heap} (x : OldT c h) (k : ∀ b o, h.get? b = some o → h'.get? b = some o) : OldT c h' :=
  ⟨x.k.step_keeps k, fun q hq => let ⟨ps, e, r⟩ := x.t q hq; ⟨ps, k _ _ e, r⟩⟩
theorem OldT.step_same {c : Cx} {h h' : Heap} (x : OldT c h) {a : Addr} (ha : c.base.objs.size ≤ a) (hs : Heap.SameBut a h h') : OldT c h' :=
  ⟨x.k.step_same ha hs, fun q hq => let ⟨ps, e, r⟩ := x.t q hq; ⟨ps, (hs.2 _ (Nat.ne_of_lt (Nat.lt_of_lt_of_le (Heap.lt_size (c.tabsOk q hq).2.1) ha))).trans e, r⟩⟩
/-- the generators that H owns: each at its own place -/
def GenU (gens : Array GenState) (H : AHeap) : Prop := ∀ a t gi P, H a = some (t, .gen gi P) → (∃ gs, gens[gi]? = some gs ∧ P gs) ∧ ∀ b t' P', H b = some (t', .gen gi P') → b = a
theorem GenU.sub {gens : Array GenState} {H H' : AHeap} (g : GenU gens H) (h : ∀ a t gi P, H' a = some (t, .gen gi P) → H a = some (t, .gen gi P)) : GenU gens H' :=
  fun a t gi P e => ⟨(g a t gi P (h _ _ _ _ e)).1, fun b t' P' e' => (g a t gi P (h _ _ _ _ e)).2 b t' P' (h _ _ _ _ e')⟩

structure Ok (c : Cx) (W : WM) (s : Shared) (H : AHeap) : Prop where
  old : OldT c s.heap
  stat : s.heap.get? cStatics = c.base.get? cStatics
  os : s.os = c.os
  bare : AllBare s.gens
  low : c.base.objs.size ≤ s.heap.objs.size
  own : ∀ a t o, H a = some (t, o) → c.base.objs.size ≤ a ∧ ∃ ob, s.heap.get? a = some ob ∧ OR c W ob o
  gen : GenU s.gens H
  frz : ∀ a v, W a = some v → c.base.objs.size ≤ a ∧ H a = none ∧ ∃ ob, s.heap.get? a = some ob ∧ FR c W ob v

def Ext (W W' : WM) : Prop := ∀ a v, W a = some v → W' a = some v

structure Post (c : Cx) (W : WM) (s : Shared) (H : AHeap) (W' : WM) (s' : Shared) (H' : AHeap) : Prop where
  ok : Ok c W' s' H'
  ext : Ext W W'
  keep : ∀ b ob, s.heap.get? b = some ob → H b = none → c.base.objs.size ≤ b → (∀ vs, ob.data ≠ .fields vs) → ∃ sl, s'.heap.get? b = some { ob with slots := sl }
  size : s.heap.objs.size ≤ s'.heap.objs.size
  dom : ∀ b, H' b ≠ none → H b ≠ none ∨ s.heap.objs.size ≤ b
  wdom : ∀ b, W' b ≠ none → W b ≠ none ∨ H b ≠ none ∨ s.heap.objs.size ≤ b

/-- the same, but for the frame's own dict -/
structure PostX (c : Cx) (L : Addr) (W : WM) (s : Shared) (H : AHeap) (W' : WM) (s' : Shared) (H' : AHeap) : Prop where
  ok : Ok c W' s' H'
  ext : Ext W W'
  keep : ∀ b ob, b ≠ L → s.heap.get? b = some ob → H b = none → c.base.objs.size ≤ b → (∀ vs, ob.data ≠ .fields vs) → ∃ sl, s'.heap.get? b = some { ob with slots := sl }
  size : s.heap.objs.size ≤ s'.heap.objs.size
  dom : ∀ b, H' b ≠ none → H b ≠ none ∨ s.heap.objs.size ≤ b
  wdom : ∀ b, W' b ≠ none → W b ≠ none ∨ H b ≠ none ∨ s.heap.objs.size ≤ b
theorem Post.x {c : Cx} {W W' : WM} {s s' : Shared} {H H' : AHeap} (p : Post c W s H W' s' H') (L : Addr) : PostX c L W s H W' s' H' := ⟨p.ok, p.ext, fun b ob _ => p.keep b ob, p.size, p.dom, p.wdom⟩

/-- the frames that stand: each is a dict of nobody's -/
def FF (c : Cx) (W : WM) (h : Heap) (H : AHeap) (fs : List Env) : Prop :=
  ∀ e ∈ fs, e.scope.kind ≠ .module ∧ ∃ L o, e.frame = some L ∧ c.base.objs.size ≤ L ∧ (H L = none ∧ W L = none) ∧ h.get? L = some o ∧ ∀ vs, o.data ≠ .fields vs

structure Fo (c : Cx) (W : WM) (s : Shared) (H : AHeap) (env : Env) (A : Around) (m : LM) : Prop where
  ns : ∃ mr, s.heap.Ns env.locals mr ∧ ∀ x, OV W (mr x) (m x)
  un : H env.locals = none
  unW : W env.locals = none
  new : c.base.objs.size ≤ env.locals
  ff : ∃ outer, A.frames = some (env :: outer) ∧ FF c W s.heap H (env :: outer)
  fr : env.frame = some env.locals

/-- the weakest precondition, in abstract words -/
def G {α β : Type} (nf : Bool) (c : Cx) (A : Around) (env : Env) (R : WM → α → β → Prop) (Q : β → LM → AHeap → Prop) (E : AV → LM → AHeap → Prop) (W : WM) (s : Shared) (H : AHeap) (t : Sem α) : Prop :=
  wpN nf c.M A t (fun x s' => ∃ W' H' m' y, PostX c env.locals W s H W' s' H' ∧ Fo c W' s' H' env A m' ∧ R W' x y ∧ Q y m' H')
    (fun e s' => ∃ W' H' m' y, PostX c env.locals W s H W' s' H' ∧ Fo c W' s' H' env A m' ∧ VR W' e y ∧ E y m' H') s

def AG {α β : Type} (R : WM → α → β → Prop) (nf : Bool) (c : Cx) (A : Around) (env : Env) (m : LM) (H : AHeap) (t : Sem α) (Q : β → LM → AHeap → Prop) (E : AV → LM → AHeap → Prop) : Prop :=
  ∀ W s, Ok c W s H → Fo c W s H env A m → G nf c A env R Q E W s H t

/-! ### keeping -/
theorem Ext.refl (W : WM) : Ext W W := fun _ _ h => h
theorem Ext.trans {W W' W'' : WM} (x : Ext W W') (y : Ext W' W'') : Ext W W'' := fun a v h => y a v (x a v h)
theorem VR.mono {W W' : WM} (x : Ext W W') {v : Value} : ∀ {a : AV}, VR W v a → VR W' v a
  | .none, h => h | .bool _, h => h | .int _, h => h | .str _, h => h | .ref _, h => h | .con _, h => h
  | .tup _, ⟨a, h, k⟩ => ⟨a, h, x _ _ k⟩
  | .fd _, ⟨a, h, k⟩ => ⟨a, h, x _ _ k⟩
theorem OV.mono {W W' : WM} (x : Ext W W') : ∀ {v : Option Value} {a : Option AV}, OV W v a → OV W' v a
  | .none, .none, _ => trivial
  | some _, some _, h => VR.mono x h
theorem All2.imp {α β : Type} {R S : α → β → Prop} (h : ∀ x y, R x y → S x y) : ∀ {l : List α} {l' : List β}, All2 R l l' → All2 S l l'
  | _, _, .nil => .nil
  | _, _, .cons a b => .cons (h _ _ a) (b.imp h)
theorem All2.length {α β : Type} {R : α → β → Prop} : ∀ {l : List α} {l' : List β}, All2 R l l' → l.length = l'.length
  | _, _, .nil => rfl
  | _, _, .cons _ b => by simp [b.length]
theorem VRs.mono {W W' : WM} (x : Ext W W') {vs : List Value} {as : List AV} (h : All2 (VR W) vs as) : All2 (VR W') vs as := h.imp fun _ _ => VR.mono x
theorem KV.mono {κ : Type} {W W' : WM} (x : Ext W W') {l : List (κ × Value)} {l' : List (κ × AV)} (h : KV W l l') : KV W' l l' := h.imp fun _ _ y => ⟨y.1, VR.mono x y.2⟩
theorem PK.mono {W W' : WM} (x : Ext W W') {l : List (List Int × Addr × Value)} {l'} (h : PK W l l') : PK W' l l' := h.imp fun _ _ y => ⟨y.1, x _ _ y.2.1, VR.mono x y.2.2⟩
theorem OR.mono {c : Cx} {W W' : WM} (x : Ext W W') {ob : Obj} : ∀ {o : AObj}, OR c W ob o → OR c W' ob o
  | .inst _ _, h => h
  | .slot1 _ _ _, ⟨v', h, k⟩ => ⟨v', h, VR.mono x k⟩
  | .dI _, ⟨kvs, h, k, z⟩ => ⟨kvs, h, KV.mono x k, z⟩
  | .dS _, ⟨kvs, h, k, z⟩ => ⟨kvs, h, KV.mono x k, z⟩
  | .nS _, ⟨kvs, es, ep, h1, h2, h3, h4, k, z⟩ => ⟨kvs, es, ep, h1, h2, h3, h4, KV.mono x k, z⟩
  | .dP _, ⟨xs, es, ep, h1, h2, h3, h4, k, z⟩ => ⟨xs, es, ep, h1, h2, h3, h4, PK.mono x k, z⟩
  | .list _, ⟨vs, n, h, k, z⟩ => ⟨vs, n, h, VRs.mono x k, z⟩
  | .rcd _ _, ⟨vs, h, k⟩ => ⟨vs, h, VRs.mono x k⟩
  | .gen _ _, h => h
  | .rng _, h => h
  | .itm _ _ _ _, h => h
  | .itmo _ _ _ _ _, h => h
  | .otup _, ⟨vs, n, h, k⟩ => ⟨vs, n, h, VRs.mono x k⟩
  | .loc _, ⟨es, ep, a, b, k⟩ => ⟨es, ep, a, b, fun y => OV.mono x (k y)⟩
  | .raw _, h => h
  | .pin _ _, ⟨h, k⟩ => ⟨h, OR.mono x k⟩
theorem FR.mono {c : Cx} {W W' : WM} (x : Ext W W') {ob : Obj} : ∀ {o : AV}, FR c W ob o → FR c W' ob o
  | .tup _, ⟨vs, n, h, k⟩ => ⟨vs, n, h, VRs.mono x k⟩
  | .fd _, ⟨kvs, h, k, z⟩ => ⟨kvs, h, KV.mono x k, z⟩
  | .none, h => h | .bool _, h => h | .int _, h => h | .str _, h => h | .ref _, h => h | .con _, h => h

section
variable {nf : Bool} {c : Cx} {A : Around} {env : Env} {m m' : LM} {W W' W'' : WM} {s s' s'' : Shared} {H H' H'' : AHeap}

theorem Post.trans (x : Post c W s H W' s' H') (y : Post c W' s' H' W'' s'' H'') : Post c W s H W'' s'' H'' where
  ok := y.ok
  ext := x.ext.trans y.ext
  keep := fun b ob hb hH hB hd => by
    obtain ⟨sl, h1⟩ := x.keep b ob hb hH hB hd
    have h2 : H' b = none := by
      cases q : H' b with
      | none => rfl
      | some o =>
        rcases x.dom b (by rw [q]; exact fun z => nomatch z) with z | z
        · exact absurd hH z
        · exact absurd (Heap.lt_size hb) (Nat.not_lt.mpr z)
    obtain ⟨sl', h3⟩ := y.keep b _ h1 h2 hB hd
    exact ⟨sl', h3⟩
  size := Nat.le_trans x.size y.size
  dom := fun b hb => by
    rcases y.dom b hb with z | z
    · exact x.dom b z
    · exact .inr (Nat.le_trans x.size z)
  wdom := fun b hb => by
    rcases y.wdom b hb with z | z | z
    · exact x.wdom b z
    · exact .inr (x.dom b z)
    · exact .inr (.inr (Nat.le_trans x.size z))
theorem PostX.trans {L : Addr} (x : PostX c L W s H W' s' H') (y : PostX c L W' s' H' W'' s'' H'') : PostX c L W s H W'' s'' H'' where
  ok := y.ok
  ext := x.ext.trans y.ext
  keep := fun b ob hL hb hH hB hd => by
    obtain ⟨sl, h1⟩ := x.keep b ob hL hb hH hB hd
    have h2 : H' b = none := by
      cases q : H' b with
      | none => rfl
      | some o =>
        rcases x.dom b (by rw [q]; exact fun z => nomatch z) with z | z
        · exact absurd hH z
        · exact absurd (Heap.lt_size hb) (Nat.not_lt.mpr z)
    obtain ⟨sl', h3⟩ := y.keep b _ hL h1 h2 hB hd
    exact ⟨sl', h3⟩
  size := Nat.le_trans x.size y.size
  dom := fun b hb => by
    rcases y.dom b hb with z | z
    · exact x.dom b z
    · exact .inr (Nat.le_trans x.size z)
  wdom := fun b hb => by
    rcases y.wdom b hb with z | z | z
    · exact x.wdom b z
    · exact .inr (x.dom b z)
    · exact .inr (.inr (Nat.le_trans x.size z))
theorem Post.refl (ok : Ok c W s H) : Post c W s H W s H := ⟨ok, Ext.refl W, fun b ob hb _ _ _ => ⟨ob.slots, hb⟩, Nat.le_refl _, fun _ h => .inl h, fun _ h => .inl h⟩
theorem Ok.toks (ok : Ok c W s H) (n : Nat) : Ok c W { s with toks := n } H := ⟨ok.old, ok.stat, ok.os, ok.bare, ok.low, ok.own, ok.gen, ok.frz⟩
theorem Post.toks (ok : Ok c W s H) (n : Nat) : Post c W s H W { s with toks := n } H := ⟨ok.toks n, Ext.refl W, fun b ob hb _ _ _ => ⟨ob.slots, hb⟩, Nat.le_refl _, fun _ h => .inl h, fun _ h => .inl h⟩
theorem Fo.toks (fo : Fo c W s H env A m) (n : Nat) : Fo c W { s with toks := n } H env A m := ⟨fo.ns, fo.un, fo.unW, fo.new, fo.ff, fo.fr⟩

theorem FF.keep {fs : List Env} (x : FF c W s.heap H fs) (p : Post c W s H W' s' H') : FF c W' s'.heap H' fs := fun e he => by
  obtain ⟨k, L, o, a, b, ⟨hH, hW⟩, g, d⟩ := x e he
  obtain ⟨sl, h1⟩ := p.keep L o g hH b d
  refine ⟨k, L, _, a, b, ⟨?_, ?_⟩, h1, d⟩
  · cases q : H' L with
    | none => rfl
    | some o' =>
      rcases p.dom L (by rw [q]; exact fun z => nomatch z) with z | z
      · exact absurd hH z
      · exact absurd (Heap.lt_size g) (Nat.not_lt.mpr z)
  · cases q : W' L with
    | none => rfl
    | some o' =>
      rcases p.wdom L (by rw [q]; exact fun z => nomatch z) with z | z | z
      · exact absurd hW z
      · exact absurd hH z
      · exact absurd (Heap.lt_size g) (Nat.not_lt.mpr z)
theorem Fo.keep (fo : Fo c W s H env A m) (p : Post c W s H W' s' H') : Fo c W' s' H' env A m := by
  obtain ⟨outer, h1, h2⟩ := fo.ff
  have ff := h2.keep p
  obtain ⟨_, L, o, hf, hB, ⟨hH, hW⟩, _⟩ := ff env (.head _)
  obtain rfl : env.locals = L := Option.some.inj (fo.fr.symm.trans hf)
  obtain ⟨mr, ⟨o', es, ep, ho, hd, hs, hm⟩, hr⟩ := fo.ns
  obtain ⟨sl, ho'⟩ := p.keep _ o' ho fo.un fo.new (fun vs q => by rw [hd] at q; cases q)
  exact ⟨⟨mr, ⟨_, es, ep, ho', hd, hs, hm⟩, fun x => (hr x).mono p.ext⟩, hH, hW, hB, ⟨outer, h1, ff⟩, fo.fr⟩

section
variable {α β α' β' : Type} {R : WM → α → β → Prop} {R' : WM → α' → β' → Prop} {Q : β → LM → AHeap → Prop} {Q' : β' → LM → AHeap → Prop} {E : AV → LM → AHeap → Prop}
theorem G.mono {t : Sem α} {Q₂ : β → LM → AHeap → Prop} {E₂ : AV → LM → AHeap → Prop} (h : G nf c A env R Q E W s H t) (hQ : ∀ y m' H', Q y m' H' → Q₂ y m' H') (hE : ∀ y m' H', E y m' H' → E₂ y m' H') : G nf c A env R Q₂ E₂ W s H t :=
  wpN_mono h (fun _ _ ⟨W', H', m', y, a, b, d, e⟩ => ⟨W', H', m', y, a, b, d, hQ _ _ _ e⟩) fun _ _ ⟨W', H', m', y, a, b, d, e⟩ => ⟨W', H', m', y, a, b, d, hE _ _ _ e⟩
/-- what holds from a later state holds from the earlier one -/
theorem G.from {t : Sem α} (p : PostX c env.locals W s H W' s' H') (h : G nf c A env R Q E W' s' H' t) : wpN nf c.M A t (fun x s'' => ∃ W'' H'' m' y, PostX c env.locals W s H W'' s'' H'' ∧ Fo c W'' s'' H'' env A m' ∧ R W'' x y ∧ Q y m' H'')
    (fun e s'' => ∃ W'' H'' m' y, PostX c env.locals W s H W'' s'' H'' ∧ Fo c W'' s'' H'' env A m' ∧ VR W'' e y ∧ E y m' H'') s' :=
  wpN_mono h (fun _ _ ⟨W', H', m', y, a, b, d, e⟩ => ⟨W', H', m', y, p.trans a, b, d, e⟩) fun _ _ ⟨W', H', m', y, a, b, d, e⟩ => ⟨W', H', m', y, p.trans a, b, d, e⟩
theorem G.bind {t : Sem α} {f : α → Sem α'} (h : G nf c A env R Q E W s H t)
    (k : ∀ W' s' m' H' x y, Ok c W' s' H' → Fo c W' s' H' env A m' → Ext W W' → R W' x y → Q y m' H' → G nf c A env R' Q' E W' s' H' (f x)) : G nf c A env R' Q' E W s H (t >>= f) :=
  wpN_bind (wpN_mono h (fun _ _ ⟨_, _, _, _, a, b, d, e⟩ => G.from a (k _ _ _ _ _ _ a.ok b a.ext d e)) fun _ _ z => z)
theorem G.pure {x : α} {y : β} (ok : Ok c W s H) (fo : Fo c W s H env A m) (r : R W x y) (q : Q y m H) : G nf c A env R Q E W s H (pure x) :=
  wpN_pure ⟨W, H, m, y, (Post.refl ok).x _, fo, r, q⟩
theorem G.of {t : Sem α} (h : wpN nf c.M A t (fun x s' => ∃ W' H' m' y, PostX c env.locals W s H W' s' H' ∧ Fo c W' s' H' env A m' ∧ R W' x y ∧ Q y m' H')
    (fun e s' => ∃ W' H' m' y, PostX c env.locals W s H W' s' H' ∧ Fo c W' s' H' env A m' ∧ VR W' e y ∧ E y m' H') s) : G nf c A env R Q E W s H t := h
/-- an end at which the heap stands as it stood -/
theorem stay {x : α} {y : β} {n : Nat} (ok : Ok c W s H) (fo : Fo c W s H env A m) (r : R W x y) (q : Q y m H) :
    ∃ W' H' m' y, PostX c env.locals W s H W' { s with toks := n } H' ∧ Fo c W' { s with toks := n } H' env A m' ∧ R W' x y ∧ Q y m' H' := ⟨W, H, m, y, (Post.toks ok n).x _, fo.toks n, r, q⟩
theorem stay0 {x : α} {y : β} (ok : Ok c W s H) (fo : Fo c W s H env A m) (r : R W x y) (q : Q y m H) :
    ∃ W' H' m' y, PostX c env.locals W s H W' s H' ∧ Fo c W' s H' env A m' ∧ R W' x y ∧ Q y m' H' := ⟨W, H, m, y, (Post.refl ok).x _, fo, r, q⟩
end
end
end Nx
end
section
set_option autoImplicit false
namespace Nx

def upd (H : AHeap) (a : Addr) (x : Tag × AObj) : AHeap := fun b => if b = a then some x else H b
theorem upd_same {H : AHeap} {a : Addr} {x : Tag × AObj} : upd H a x a = some x := if_pos rfl
theorem upd_ne {H : AHeap} {a b : Addr} {x : Tag × AObj} (h : b ≠ a) : upd H a x b = H b := if_neg h
theorem upd_of {H : AHeap} {a b : Addr} {x : Tag × AObj} {y : Option (Tag × AObj)} (h : b ≠ a) (e : H b = y) : upd H a x b = y := (upd_ne h).trans e

theorem VR.int' {W : WM} {i : Int} {t : Tok} : VR W (.int i t) (.int i) := ⟨t, rfl⟩
theorem VR.str' {W : WM} {x : Str} {t : Tok} : VR W (.str x t) (.str x) := ⟨t, rfl⟩
theorem VR.none' {W : WM} : VR W .none .none := rfl
theorem VR.bool' {W : WM} {b : Bool} : VR W (.bool b) (.bool b) := rfl
theorem VR.ref' {W : WM} {a : Addr} : VR W (.ref a) (.ref a) := rfl
theorem VR.tup' {W : WM} {a : Addr} {l : List AV} (h : W a = some (.tup l)) : VR W (.ref a) (.tup l) := ⟨a, rfl, h⟩
theorem VR.fd' {W : WM} {a : Addr} {l : List (Str × Int)} (h : W a = some (.fd l)) : VR W (.ref a) (.fd l) := ⟨a, rfl, h⟩
theorem VR.con' {W : WM} {v : Value} : VR W v (.con v) := rfl
def AObj.isGen : AObj → Bool
  | .gen .. => true
  | _ => false

section
variable {nf : Bool} {c : Cx} {A : Around} {env : Env} {m m' : LM} {W W' W'' : WM} {s s' s'' : Shared} {H H' H'' : AHeap}

theorem Cx.stat_ne (c : Cx) {a : Addr} (h : c.base.objs.size ≤ a) : cStatics ≠ a := by
  obtain ⟨o, e⟩ := c.stat
  exact Nat.ne_of_lt (Nat.lt_of_lt_of_le (Heap.lt_size e) h)
theorem Ok.stat_keeps (ok : Ok c W s H) {h' : Heap} (k : ∀ b o, s.heap.get? b = some o → h'.get? b = some o) : h'.get? cStatics = c.base.get? cStatics := by
  obtain ⟨o, e⟩ := c.stat
  rw [e]; exact k _ _ (ok.stat.trans e)
theorem Ok.keepD (ok : Ok c W s H) {b : Addr} {o : Obj} (e : c.base.get? b = some o) (hd : ∀ vs, o.data ≠ .fields vs) : s.heap.get? b = some o := by
  rcases ok.old.k.old b o e with x | ⟨_, _, vs, _, hv, _⟩ | ⟨rfl, _⟩
  · exact x
  · exact absurd hv (hd vs)
  · exact ok.stat.trans e
theorem Ok.kin (ok : Ok c W s H) : c.K.In s.heap := fun a o e => by
  obtain ⟨h1, h2 | rfl⟩ := c.kin a o e
  · exact ok.old.k.get_of_cls h1 h2
  · exact ok.stat.trans h1
theorem Ok.ns (ok : Ok c W s H) {a : Addr} {mm : Str → Option Value} (x : c.base.Ns a mm) : s.heap.Ns a mm := by
  obtain ⟨o, es, ep, h1, h2, h3⟩ := x
  exact ⟨o, es, ep, ok.keepD h1 (fun vs q => by rw [h2] at q; cases q), h2, h3⟩
theorem Ok.lim (ok : Ok c W s H) : s.heap.NoLimit := by
  obtain ⟨mc, h1, h2⟩ := c.lim
  exact ⟨mc, ok.ns h1, h2⟩
theorem Ok.get (ok : Ok c W s H) {a : Addr} {t : Tag} {o : AObj} (h : H a = some (t, o)) : ∃ ob, s.heap.get? a = some ob ∧ OR c W ob o := (ok.own a t o h).2
theorem Ok.lt (ok : Ok c W s H) {a : Addr} {x : Tag × AObj} (h : H a = some x) : a < s.heap.objs.size := by
  obtain ⟨t, o⟩ := x
  obtain ⟨ob, h1, _⟩ := ok.get h
  exact Heap.lt_size h1
theorem Ok.fresh (ok : Ok c W s H) : H s.heap.objs.size = none := by
  cases q : H s.heap.objs.size with
  | none => rfl
  | some x => exact absurd (ok.lt q) (Nat.lt_irrefl _)
theorem Ok.freshW (ok : Ok c W s H) : W s.heap.objs.size = none := by
  cases q : W s.heap.objs.size with
  | none => rfl
  | some x => obtain ⟨_, _, ob, h, _⟩ := ok.frz _ _ q; exact absurd (Heap.lt_size h) (Nat.lt_irrefl _)

/-- an owned object turns -/
theorem Ok.upd (ok : Ok c W s H) {a : Addr} {t t' : Tag} {o o' : AObj} {ob' : Obj} {h' : Heap} (n : Nat) (ha : H a = some (t, o)) (hs : Heap.SameBut a s.heap h') (hb : h'.get? a = some ob') (r : OR c W ob' o') (hg : o'.isGen = false) :
    Post c W s H W { s with heap := h', toks := n } (upd H a (t', o')) := by
  have hba := (ok.own a t o ha).1
  refine ⟨⟨ok.old.step_same hba hs, (hs.2 _ (c.stat_ne hba)).trans ok.stat, ok.os, ok.bare, by rw [hs.1]; exact ok.low, fun b u x hx => ?_, ok.gen.sub fun b u gi P hx => ?_, fun b v hv => ?_⟩, Ext.refl W, fun b ob g hH _ _ => ?_, by rw [hs.1]; exact Nat.le_refl _, fun b hb' => ?_, fun b hb' => ?_⟩
  · by_cases e : b = a
    · subst e; rw [upd_same] at hx; cases hx; exact ⟨hba, ob', hb, r⟩
    · rw [upd_ne e] at hx
      obtain ⟨h1, ob, h2, h3⟩ := ok.own b u x hx
      exact ⟨h1, ob, (hs.2 b e).trans h2, h3⟩
  · by_cases e : b = a
    · subst e; rw [upd_same] at hx; cases hx; cases hg
    · rw [upd_ne e] at hx; exact hx
  · obtain ⟨h1, h2, ob, h3, h4⟩ := ok.frz b v hv
    have e : b ≠ a := fun e => by rw [e, ha] at h2; cases h2
    exact ⟨h1, (upd_ne e).trans h2, ob, (hs.2 b e).trans h3, h4⟩
  · have e : b ≠ a := fun e => by rw [e, ha] at hH; cases hH
    exact ⟨ob.slots, (hs.2 b e).trans g⟩
  · by_cases e : b = a
    · exact .inl (by rw [e, ha]; exact fun z => nomatch z)
    · rw [upd_ne e] at hb'; exact .inl hb'
  · exact .inl hb'

/-- heaps that only grow -/
theorem Ok.grow (ok : Ok c W s H) {h' : Heap} (n : Nat) (k : ∀ b o, s.heap.get? b = some o → h'.get? b = some o) (hsz : s.heap.objs.size ≤ h'.objs.size) :
    Post c W s H W { s with heap := h', toks := n } H :=
  ⟨⟨ok.old.step_keeps k, ok.stat_keeps k, ok.os, ok.bare, Nat.le_trans ok.low hsz, fun b u x hx => let ⟨h1, ob, h2, h3⟩ := ok.own b u x hx; ⟨h1, ob, k _ _ h2, h3⟩, ok.gen, fun b v hv => let ⟨h1, h2, ob, h3, h4⟩ := ok.frz b v hv; ⟨h1, h2, ob, k _ _ h3, h4⟩⟩,
    Ext.refl W, fun b ob g _ _ _ => ⟨ob.slots, k _ _ g⟩, hsz, fun _ h => .inl h, fun _ h => .inl h⟩

/-- an address that nobody owns is taken -/
theorem Ok.take (ok : Ok c W s H) {a : Addr} {t : Tag} {o : AObj} {ob : Obj} (hH : H a = none) (hW : W a = none) (hb : c.base.objs.size ≤ a) (g : s.heap.get? a = some ob) (r : OR c W ob o) (hg : o.isGen = false) : Ok c W s (Nx.upd H a (t, o)) := by
  refine ⟨ok.old, ok.stat, ok.os, ok.bare, ok.low, fun b u x hx => ?_, ok.gen.sub fun b u gi P hx => ?_, fun b v hv => ?_⟩
  · by_cases e : b = a
    · subst e; rw [upd_same] at hx; cases hx; exact ⟨hb, ob, g, r⟩
    · rw [upd_ne e] at hx; exact ok.own b u x hx
  · by_cases e : b = a
    · subst e; rw [upd_same] at hx; cases hx; cases hg
    · rw [upd_ne e] at hx; exact hx
  · obtain ⟨h1, h2, h3⟩ := ok.frz b v hv
    have e : b ≠ a := fun e => by rw [e, hW] at hv; cases hv
    exact ⟨h1, (upd_ne e).trans h2, h3⟩

/-- a new object, somebody's from now on -/
theorem Ok.new (ok : Ok c W s H) {t : Tag} {o : AObj} {ob : Obj} {h' : Heap} (n : Nat) (k : ∀ b x, s.heap.get? b = some x → h'.get? b = some x) (hsz : s.heap.objs.size ≤ h'.objs.size) (hb : h'.get? s.heap.objs.size = some ob) (r : OR c W ob o) (hg : o.isGen = false) :
    Post c W s H W { s with heap := h', toks := n } (Nx.upd H s.heap.objs.size (t, o)) := by
  have p := ok.grow n k hsz
  refine ⟨p.ok.take ok.fresh ok.freshW ok.low hb r hg, Ext.refl W, fun b ob g _ _ _ => ⟨ob.slots, k _ _ g⟩, hsz, fun b hb' => ?_, fun _ h => .inl h⟩
  by_cases e : b = s.heap.objs.size
  · exact .inr (Nat.le_of_eq e.symm)
  · rw [upd_ne e] at hb'; exact .inl hb'
theorem Ok.alloc (ok : Ok c W s H) {t : Tag} {o : AObj} {ob : Obj} (n : Nat) (r : OR c W ob o) (hf : ob.isFreed = false) (hg : o.isGen = false) :
    Post c W s H W { s with heap := s.heap.push ob, toks := n } (Nx.upd H s.heap.objs.size (t, o)) :=
  ok.new n (fun _ _ e => Heap.get?_push_of_some _ e) (by rw [Heap.size_push]; exact Nat.le_succ _) (Heap.get?_push_size _ hf) r hg

def updW (W : WM) (a : Addr) (v : AV) : WM := fun b => if b = a then some v else W b
theorem updW_same {a : Addr} {v : AV} : updW W a v a = some v := if_pos rfl
theorem updW_ext {a : Addr} {v : AV} (h : W a = none) : Ext W (updW W a v) := fun b x e => by
  have : b ≠ a := fun q => by rw [q, h] at e; cases e
  exact (if_neg this).trans e
/-- a new object that never turns -/
theorem Ok.freeze (ok : Ok c W s H) {v : AV} {ob : Obj} {h' : Heap} (n : Nat) (k : ∀ b x, s.heap.get? b = some x → h'.get? b = some x) (hsz : s.heap.objs.size ≤ h'.objs.size) (hb : h'.get? s.heap.objs.size = some ob) (r : FR c W ob v) :
    Post c W s H (updW W s.heap.objs.size v) { s with heap := h', toks := n } H := by
  have x : Ext W (updW W s.heap.objs.size v) := updW_ext ok.freshW
  refine ⟨⟨ok.old.step_keeps k, ok.stat_keeps k, ok.os, ok.bare, Nat.le_trans ok.low hsz, fun b u y hx => let ⟨h1, ob, h2, h3⟩ := ok.own b u y hx; ⟨h1, ob, k _ _ h2, h3.mono x⟩, ok.gen, fun b y hv => ?_⟩,
    x, fun b ob g _ _ _ => ⟨ob.slots, k _ _ g⟩, hsz, fun _ h => .inl h, fun b hb' => by
      by_cases e : b = s.heap.objs.size
      · exact .inr (.inr (Nat.le_of_eq e.symm))
      · exact .inl (by rw [show updW W s.heap.objs.size v b = W b from if_neg e] at hb'; exact hb')⟩
  by_cases e : b = s.heap.objs.size
  · subst e
    rw [updW_same] at hv; cases hv
    exact ⟨ok.low, ok.fresh, ob, hb, r.mono x⟩
  · have : W b = some y := (if_neg e).symm.trans hv
    obtain ⟨h1, h2, ob, h3, h4⟩ := ok.frz b y this
    exact ⟨h1, h2, ob, k _ _ h3, h4.mono x⟩
/-- what nobody needs any more is let go -/
theorem Ok.drop (ok : Ok c W s H) (a : Addr) : Ok c W s (fun b => if b = a then none else H b) := by
  refine ⟨ok.old, ok.stat, ok.os, ok.bare, ok.low, fun b u x hx => ?_, ok.gen.sub fun b u gi P hx => ?_, fun b v hv => ?_⟩
  · by_cases e : b = a
    · simp [e] at hx
    · rw [if_neg e] at hx; exact ok.own b u x hx
  · by_cases e : b = a
    · simp [e] at hx
    · rw [if_neg e] at hx; exact hx
  · obtain ⟨h1, h2, h3⟩ := ok.frz b v hv
    refine ⟨h1, ?_, h3⟩
    by_cases e : b = a
    · simp [e]
    · rw [if_neg e]; exact h2
end

structure AE (nf : Bool) (c : Cx) (A : Around) (env : Env) (m : LM) (H : AHeap) (e : Expr) (Q : AV → LM → AHeap → Prop) (E : AV → LM → AHeap → Prop) : Prop where
  ag : AG VR nf c A env m H (eval e env) Q E
end Nx
end
section
set_option autoImplicit false
namespace Nx

/-! ### pure computations: they leave the abstract heap and the frame as they stand -/
def PT {α β : Type} (R : WM → α → β → Prop) (c : Cx) (A : Around) (env : Env) (m : LM) (H : AHeap) (t : Sem α) (v : β) : Prop :=
  ∀ W s, Ok c W s H → Fo c W s H env A m → wpAny c.M A t (fun x s' => ∃ W', Post c W s H W' s' H ∧ R W' x v) (fun _ _ => False) s
structure PE (c : Cx) (A : Around) (env : Env) (m : LM) (H : AHeap) (e : Expr) (v : AV) : Prop where
  pt : PT VR c A env m H (eval e env) v
abbrev RB : WM → Bool → Bool → Prop := fun _ x y => x = y
structure PB (c : Cx) (A : Around) (env : Env) (m : LM) (H : AHeap) (e : Expr) (b : Bool) : Prop where
  pt : PT RB c A env m H (isTrue e env (eval e env)) b

section
variable {nf : Bool} {c : Cx} {A : Around} {env : Env} {m : LM} {H : AHeap} {E : AV → LM → AHeap → Prop} {W : WM} {s : Shared}

theorem PT.run {α β : Type} {R : WM → α → β → Prop} {t : Sem α} {v : β} {P : α → Shared → Prop} {E : Value → Shared → Prop} (h : PT R c A env m H t v) (ok : Ok c W s H) (fo : Fo c W s H env A m)
    (k : ∀ W' s' x, Post c W s H W' s' H → Fo c W' s' H env A m → R W' x v → P x s') : wpAny c.M A t P E s :=
  wpAny_mono (h W s ok fo) (fun x s' ⟨W', p, r⟩ => k W' s' x p (fo.keep p) r) fun _ _ z => z.elim
theorem PT.use {α β : Type} {R : WM → α → β → Prop} {t : Sem α} {v : β} {Q : β → LM → AHeap → Prop} (h : PT R c A env m H t v) (q : Q v m H) : AG R nf c A env m H t Q E :=
  fun _ _ ok fo => wpN_of (h.run ok fo fun W' _ _ p f r => ⟨W', H, m, v, p.x _, f, r, q⟩)
/-- the end of a pure computation, some tokens later -/
theorem fin {α β : Type} {R : WM → α → β → Prop} {W' : WM} {s' : Shared} {x : α} {v : β} {n : Nat} (p : Post c W s H W' s' H) (r : R W' x v) : ∃ W'', Post c W s H W'' { s' with toks := n } H ∧ R W'' x v :=
  ⟨W', p.trans (Post.toks p.ok n), r⟩
theorem fin0 {α β : Type} {R : WM → α → β → Prop} {W' : WM} {s' : Shared} {x : α} {v : β} (p : Post c W s H W' s' H) (r : R W' x v) : ∃ W'', Post c W s H W'' s' H ∧ R W'' x v := ⟨W', p, r⟩

theorem PE.run {e : Expr} {v : AV} {P : Value → Shared → Prop} {E : Value → Shared → Prop} (h : PE c A env m H e v) (ok : Ok c W s H) (fo : Fo c W s H env A m)
    (k : ∀ W' s' x, Post c W s H W' s' H → Fo c W' s' H env A m → VR W' x v → P x s') : wpAny c.M A (eval e env) P E s := h.pt.run ok fo k
theorem PB.run {e : Expr} {v : Bool} {P : Bool → Shared → Prop} {E : Value → Shared → Prop} (h : PB c A env m H e v) (ok : Ok c W s H) (fo : Fo c W s H env A m)
    (k : ∀ W' s' x, Post c W s H W' s' H → Fo c W' s' H env A m → x = v → P x s') : wpAny c.M A (isTrue e env (eval e env)) P E s := h.pt.run ok fo k
theorem pe_int {i : Int} {k : Nat} {pos : Pos} : PE c A env m H (.Constant (.int i) k pos) (.int i) := .mk fun _ _ ok _ => wpAny_Constant_int (fin (Post.refl ok) VR.int')
theorem pe_str {x : Str} {k : Nat} {pos : Pos} : PE c A env m H (.Constant (.str x) k pos) (.str x) := .mk fun _ _ ok _ => wpAny_Constant_str (fin (Post.refl ok) VR.str')
theorem pe_none {k : Nat} {pos : Pos} : PE c A env m H (.Constant .none k pos) .none := .mk fun _ _ ok _ => wpAny_Constant_none (fin0 (Post.refl ok) VR.none')
theorem pe_bool {b : Bool} {k : Nat} {pos : Pos} : PE c A env m H (.Constant (.bool b) k pos) (.bool b) := .mk fun _ _ ok _ => wpAny_Constant_bool (fin0 (Post.refl ok) VR.bool')
theorem pe_name {x : Str} {pos : Pos} {v : AV} (hv : m x = some v) (hk : env.scope.kind = .function := by rfl) (hl : env.kindOf x = some .local := by rfl)
    (hd : (x == ("__debug__" : Str)) = false := by decide) : PE c A env m H (.Name x pos) v := .mk fun W s ok fo => by
  obtain ⟨mr, hn, hr⟩ := fo.ns
  have z := hr x
  rw [hv] at z
  cases q : mr x with
  | none => rw [q] at z; exact z.elim
  | some u =>
    rw [q] at z
    exact wpAny_Name (wpAny_loadName_local hk hl hn q (fin0 (Post.refl ok) z)) hd
theorem pe_glob {x : Str} {pos : Pos} {a : Addr} (hv : c.mg x = some (.ref a)) (hg : env.globals = mainGlobals := by rfl) (hk : env.scope.kind = .function := by rfl) (hl : env.kindOf x = some .globalImplicit := by rfl)
    (hd : (x == ("__debug__" : Str)) = false := by decide) : PE c A env m H (.Name x pos) (.ref a) := .mk fun _ _ ok _ =>
  Name_function_global hk hl (loadGlobal_global (by rw [hg]; exact ok.ns c.gns) hv (fin0 (Post.refl ok) VR.ref')) hd
theorem pe_blt {x : Str} {pos : Pos} {v : Value} (hn : c.mg x = none) (hv : c.mb x = some v) (hg : env.globals = mainGlobals := by rfl) (hb : env.builtins = builtinsNs := by rfl) (hk : env.scope.kind = .function := by rfl) (hl : env.kindOf x = some .globalImplicit := by rfl)
    (hd : (x == ("__debug__" : Str)) = false := by decide) : PE c A env m H (.Name x pos) (.con v) := .mk fun _ _ ok _ =>
  Name_function_global hk hl (loadGlobal_builtin (by rw [hg]; exact ok.ns c.gns) hn (by rw [hb]; exact ok.ns c.bns) hv (fin0 (Post.refl ok) VR.con')) hd

/-! ints -/
theorem pe_bin {l r : Expr} {op : Operator} {pos : Pos} {a b v : AV} (hl : PE c A env m H l a) (hr : PE c A env m H r b)
    (h : ∀ W s u x, Ok c W s H → VR W u a → VR W x b → wpAny c.M A (binaryOp op u x) (fun y s' => ∃ W', Post c W s H W' s' H ∧ VR W' y v) (fun _ _ => False) s) : PE c A env m H (.BinOp l op r pos) v := .mk fun W s ok fo =>
  wpAny_BinOp (hl.run ok fo fun W1 s1 u p1 f1 r1 => hr.run p1.ok f1 fun W2 s2 x p2 _ r2 => wpAny_mono (h W2 s2 u x p2.ok (r1.mono p2.ext) r2) (fun _ _ ⟨W3, p3, r3⟩ => ⟨W3, (p1.trans p2).trans p3, r3⟩) fun _ _ z => z)
theorem pe_add {l r : Expr} {pos : Pos} {a b : Int} (hl : PE c A env m H l (.int a)) (hr : PE c A env m H r (.int b)) : PE c A env m H (.BinOp l .Add r pos) (.int (a + b)) :=
  pe_bin hl hr fun W s u x ok ⟨t, h1⟩ ⟨t', h2⟩ => by subst h1 h2; exact add_int (fin (Post.refl ok) VR.int')
theorem pe_mul {l r : Expr} {pos : Pos} {a b : Int} (hl : PE c A env m H l (.int a)) (hr : PE c A env m H r (.int b)) (hb : b.natAbs < 2 ^ 63 := by decide) : PE c A env m H (.BinOp l .Mult r pos) (.int (a * b)) :=
  pe_bin hl hr fun W s u x ok ⟨t, h1⟩ ⟨t', h2⟩ => by subst h1 h2; exact mul_int (fin (Post.refl ok) VR.int') (IntMulOk.of_right (by exact PySem.intBits_le_64 (by omega) (by omega)))
theorem pe_mod {l r : Expr} {pos : Pos} {a b : Int} (hl : PE c A env m H l (.int a)) (hr : PE c A env m H r (.int b)) (hb : b ≠ 0) : PE c A env m H (.BinOp l .Mod r pos) (.int (a.fmod b)) :=
  pe_bin hl hr fun W s u x ok ⟨t, h1⟩ ⟨t', h2⟩ => by subst h1 h2; exact mod_int' hb (fin (Post.refl ok) VR.int')
theorem pe_fdiv {l r : Expr} {pos : Pos} {a b : Int} (hl : PE c A env m H l (.int a)) (hr : PE c A env m H r (.int b)) (hb : b ≠ 0) (hp : Builtin.divisionGoesByPylong a b = false) : PE c A env m H (.BinOp l .FloorDiv r pos) (.int (a.fdiv b)) :=
  pe_bin hl hr fun W s u x ok ⟨t, h1⟩ ⟨t', h2⟩ => by subst h1 h2; exact floordiv_int hb (fin (Post.refl ok) VR.int') (.inl hp)
theorem VR.of {W : WM} {v : Value} : VR W v (.con v) := rfl
end
end Nx
end
section
set_option autoImplicit false
namespace Nx

/-! ### dicts as lists of pairs -/
section
variable {κ : Type} [DecidableEq κ] {α : Type}
def look : List (κ × α) → κ → Option α
  | [], _ => none
  | p :: r, k => if p.1 = k then some p.2 else look r k
def put : List (κ × α) → κ → α → List (κ × α)
  | [], k, a => [(k, a)]
  | p :: r, k, a => if p.1 = k then (k, a) :: r else p :: put r k a
theorem put_length (l : List (κ × α)) (k : κ) (a : α) : (put l k a).length ≤ l.length + 1 := by
  induction l with
  | nil => simp [put]
  | cons p r ih => unfold put; split <;> simp; exact ih
theorem look_put_same (l : List (κ × α)) (k : κ) (a : α) : look (put l k a) k = some a := by
  induction l with
  | nil => simp [put, look]
  | cons p r ih => unfold put; split <;> simp [look, *]
theorem look_put_ne (l : List (κ × α)) {k j : κ} (a : α) (h : j ≠ k) : look (put l k a) j = look l j := by
  induction l with
  | nil => simp [put, look, h.symm]
  | cons p r ih =>
    unfold put
    split
    · rename_i e; subst e; simp [look, h.symm]
    · simp [look, ih]
theorem look_none {l : List (κ × α)} {k : κ} : look l k = none ↔ k ∉ l.map (·.1) := by
  induction l with
  | nil => simp [look]
  | cons p r ih =>
    by_cases e : p.1 = k
    · simp [look, e]
    · have e' : ¬ k = p.1 := fun q => e q.symm
      simp [look, e, e', ih]
theorem put_new {l : List (κ × α)} {k : κ} (a : α) (h : look l k = none) : put l k a = l ++ [(k, a)] := by
  induction l with
  | nil => rfl
  | cons p r ih =>
    unfold look at h
    split at h
    · cases h
    · rename_i e; simp [put, e, ih h]
theorem put_keys_old {l : List (κ × α)} {k : κ} (a : α) (h : look l k ≠ none) : (put l k a).map (·.1) = l.map (·.1) := by
  induction l with
  | nil => exact absurd rfl h
  | cons p r ih =>
    unfold look at h
    unfold put
    by_cases e : p.1 = k
    · simp [e]
    · rw [if_neg e] at h ⊢; simp [ih h]
theorem look_mem {l : List (κ × α)} {k : κ} {a : α} (h : look l k = some a) : (k, a) ∈ l := by
  induction l with
  | nil => cases h
  | cons p r ih =>
    unfold look at h
    split at h
    · rename_i e; obtain ⟨x, y⟩ := p; cases h; cases e; exact .head _
    · exact .tail _ (ih h)

variable {W : WM}
theorem KV.keys {kvs : List (κ × Value)} {l : List (κ × AV)} (h : KV W kvs l) : kvs.map (·.1) = l.map (·.1) := by
  unfold KV at h
  induction h with
  | nil => rfl
  | cons a _ ih => simp [a.1, ih]
theorem KV.length {kvs : List (κ × Value)} {l : List (κ × AV)} (h : KV W kvs l) : kvs.length = l.length := All2.length h
theorem KV.look {kvs : List (κ × Value)} {l : List (κ × AV)} (h : KV W kvs l) (k : κ) : OV W (valueAt kvs k) (look l k) := by
  unfold KV at h
  induction h with
  | nil => exact trivial
  | @cons p q xs ys a _ ih =>
    unfold valueAt Nx.look
    rw [List.find?_cons]
    by_cases e : q.1 = k
    · have e' : p.1 = k := a.1.trans e
      simp only [e', decide_true, if_pos e]
      exact a.2
    · have e' : ¬ p.1 = k := fun z => e (a.1.symm.trans z)
      simp only [e', decide_false, if_neg e]
      exact ih
theorem KV.stored {kvs : List (κ × Value)} {l : List (κ × AV)} (h : KV W kvs l) (hn : (kvs.map (·.1)).Nodup) {k : κ} {v : Value} {a : AV} (r : VR W v a) : KV W (stored kvs k v) (put l k a) := by
  have rest : ∀ {xs : List (κ × Value)}, k ∉ xs.map (·.1) → xs.map (fun kv => if kv.1 = k then (kv.1, v) else kv) = xs := by
    intro xs hx
    refine (List.map_congr_left (g := id) fun x hm => ?_).trans (List.map_id _)
    have : ¬ x.1 = k := fun e => hx (e ▸ List.mem_map_of_mem hm)
    simp [this]
  unfold KV at h
  induction h with
  | nil => simp only [PySem.stored]; exact .cons ⟨rfl, r⟩ .nil
  | @cons p q xs ys x y ih =>
    rw [List.map_cons, List.nodup_cons] at hn
    by_cases e : q.1 = k
    · have e' : p.1 = k := x.1.trans e
      have hk : k ∉ xs.map (·.1) := e' ▸ hn.1
      have : PySem.stored (p :: xs) k v = (k, v) :: xs := by
        unfold PySem.stored
        simp only [List.any_cons, e', decide_true, Bool.true_or, if_true, List.map_cons, rest hk]
      rw [this]
      simp only [put, if_pos e]
      exact .cons ⟨rfl, r⟩ y
    · have e' : ¬ p.1 = k := fun z => e (x.1.symm.trans z)
      have : PySem.stored (p :: xs) k v = p :: PySem.stored xs k v := by
        unfold PySem.stored
        simp only [List.any_cons, e', decide_false, Bool.false_or, List.map_cons, if_false]
        split <;> rfl
      rw [this]
      simp only [put, if_neg e]
      exact .cons x (ih hn.2)
end

section
variable {W : WM}
theorem pairKey_inj {p q : Int × Int} (h : pairKey p = pairKey q) : p = q := by
  obtain ⟨a, b⟩ := p; obtain ⟨x, y⟩ := q
  simp [pairKey] at h; simp [h]
theorem PK.length {xs : List (List Int × Addr × Value)} {l : List ((Int × Int) × AV)} (h : PK W xs l) : xs.length = l.length := All2.length h
theorem PK.look {xs : List (List Int × Addr × Value)} {l : List ((Int × Int) × AV)} (h : PK W xs l) (k : Int × Int) : OV W ((atKey xs (pairKey k)).map (·.2)) (look l k) := by
  unfold PK at h
  induction h with
  | nil => exact trivial
  | @cons p q xs ys a _ ih =>
    unfold atKey Nx.look
    rw [List.find?_cons]
    by_cases e : q.1 = k
    · have e' : p.1 = pairKey k := a.1.trans (congrArg _ e)
      simp only [e', decide_true, if_pos e]
      exact a.2.2
    · have e' : ¬ p.1 = pairKey k := fun z => e (pairKey_inj (a.1.symm.trans z))
      simp only [e', decide_false, if_neg e]
      exact ih
theorem PK.keys {xs : List (List Int × Addr × Value)} {l : List ((Int × Int) × AV)} (h : PK W xs l) : xs.map (·.1) = (l.map (·.1)).map pairKey := by
  unfold PK at h
  induction h with
  | nil => rfl
  | cons a _ ih => simp [a.1, ih]
theorem atKey_iff {xs : List (List Int × Addr × Value)} {k : List Int} : (atKey xs k).isSome = true ↔ k ∈ xs.map (·.1) := by
  induction xs with
  | nil => simp [atKey]
  | cons p r ih =>
    unfold atKey at ih ⊢
    rw [List.find?_cons]
    by_cases e : p.1 = k
    · simp [e]
    · have e' : ¬ k = p.1 := fun q => e q.symm
      simp only [e, decide_false, List.map_cons, List.mem_cons, e', false_or]
      exact ih
theorem PK.stored {xs : List (List Int × Addr × Value)} {l : List ((Int × Int) × AV)} (h : PK W xs l) (hn : (xs.map (·.1)).Nodup) {k : Int × Int} {ka : Addr} {v : Value} {a : AV} (hk : W ka = some (.tup [.int k.1, .int k.2])) (r : VR W v a) :
    PK W (storedH xs (pairKey k) ka v) (put l k a) := by
  have rest : ∀ {ys : List (List Int × Addr × Value)}, pairKey k ∉ ys.map (·.1) → ys.map (putAt (pairKey k) v) = ys := fun hx => map_putAt_of_not_mem _ _ _ hx
  unfold PK at h
  induction h with
  | nil => simp only [storedH]; exact .cons ⟨rfl, hk, r⟩ .nil
  | @cons p q xs ys x y ih =>
    rw [List.map_cons, List.nodup_cons] at hn
    by_cases e : q.1 = k
    · have e' : p.1 = pairKey k := x.1.trans (congrArg _ e)
      have hk' : pairKey k ∉ xs.map (·.1) := e' ▸ hn.1
      have : storedH (p :: xs) (pairKey k) ka v = (pairKey k, p.2.1, v) :: xs := by
        unfold storedH
        rw [if_pos (atKey_iff.mpr (by simp [e'])), List.map_cons, rest hk']
        simp [putAt, e']
      rw [this]
      simp only [put, if_pos e]
      exact .cons ⟨rfl, by rw [← e]; exact x.2.1, r⟩ y
    · have e' : ¬ p.1 = pairKey k := fun z => e (pairKey_inj (x.1.symm.trans z))
      have e2 : ¬ pairKey k = p.1 := fun z => e' z.symm
      have : storedH (p :: xs) (pairKey k) ka v = p :: storedH xs (pairKey k) ka v := by
        unfold storedH
        by_cases hm : pairKey k ∈ xs.map (·.1)
        · rw [if_pos (atKey_iff.mpr (by simp only [List.map_cons, List.mem_cons]; exact .inr hm)), if_pos (atKey_iff.mpr hm), List.map_cons]
          simp [putAt, e']
        · rw [if_neg (fun z => by have := atKey_iff.mp z; simp only [List.map_cons, List.mem_cons] at this; exact this.elim e2 hm), if_neg (fun z => hm (atKey_iff.mp z))]
          rfl
      rw [this]
      simp only [put, if_neg e]
      exact .cons x (ih hn.2)
end

/-! ### what the heap holds for them -/
section
variable {nf : Bool} {c : Cx} {A : Around} {env : Env} {m : LM} {H : AHeap} {W : WM} {s : Shared}
theorem Ok.dI (ok : Ok c W s H) {d : Addr} {t : Tag} {l : List (Int × AV)} (h : H d = some (t, .dI l)) : ∃ kvs, Heap.DictOf (intKind c.prog c.w) s.heap d kvs ∧ KV W kvs l ∧ l.length ≤ 1000 := by
  obtain ⟨ob, g, kvs, a, b, z⟩ := ok.get h
  exact ⟨kvs, Heap.dictOf_iff.mpr ⟨ob, g, a⟩, b, z⟩
theorem Ok.dS (ok : Ok c W s H) {d : Addr} {t : Tag} {l : List (Str × AV)} (h : H d = some (t, .dS l)) : ∃ kvs, Heap.DictOf (strKind c.prog c.w) s.heap d kvs ∧ KV W kvs l ∧ l.length ≤ 1000 := by
  obtain ⟨ob, g, kvs, a, b, z⟩ := ok.get h
  exact ⟨kvs, Heap.dictOf_iff.mpr ⟨ob, g, a⟩, b, z⟩
theorem Ok.isPair (ok : Ok c W s H) {a : Addr} {x y : Int} (h : W a = some (.tup [.int x, .int y])) : IsTupleKey (intKind c.prog c.w) s.heap [x, y] a := by
  obtain ⟨_, _, ob, g, vs, n, rfl, r⟩ := ok.frz a _ h
  cases r with
  | cons r1 r => cases r with
    | cons r2 r =>
      cases r
      obtain ⟨t1, rfl⟩ := r1
      obtain ⟨t2, rfl⟩ := r2
      exact ⟨_, _, _, g, rfl, rfl, .cons (intKind_is _ _ _ _) (.cons (intKind_is _ _ _ _) .nil)⟩
theorem Ok.dP (ok : Ok c W s H) {d : Addr} {t : Tag} {l : List ((Int × Int) × AV)} (h : H d = some (t, .dP l)) : ∃ xs, Heap.DictOfH (tupleKind (intKind c.prog c.w)) s.heap d xs ∧ PK W xs l ∧ l.length ≤ 1000 := by
  obtain ⟨ob, g, xs, es, ep, h1, h2, h3, h4, k, z⟩ := ok.get h
  refine ⟨xs, ⟨ob, es, ep, g, h1, h2, h3, ?_, h4⟩, k, z⟩
  intro x hx
  have : ∀ {ys : List (List Int × Addr × Value)} {l : List ((Int × Int) × AV)}, PK W ys l → ∀ x ∈ ys, IsTupleKey (intKind c.prog c.w) s.heap x.1 x.2.1 := by
    intro ys l hp
    unfold PK at hp
    induction hp with
    | nil => exact fun _ q => nomatch q
    | cons a _ ih =>
      intro x hx
      rcases List.mem_cons.mp hx with rfl | hx
      · rw [a.1]; exact ok.isPair a.2.1
      · exact ih x hx
  exact this k x hx
theorem Cx.noMods (c : Cx) {d : Addr} (h : c.base.objs.size ≤ d) : (d == sysModules) = false := by
  obtain ⟨o, e⟩ := c.stat
  have : cStatics < d := Nat.lt_of_lt_of_le (Heap.lt_size e) h
  exact beq_eq_false_iff_ne.mpr (fun q => by subst q; exact absurd this (by decide))
end
end Nx
end
section
set_option autoImplicit false
namespace Nx

section
variable {nf : Bool} {c : Cx} {A : Around} {env : Env} {m : LM} {H : AHeap} {E : AV → LM → AHeap → Prop} {W : WM} {s : Shared}

/-! ### items -/
theorem pe_sub {value slice : Expr} {pos : Pos} {a b v : AV} (hv : PE c A env m H value a) (hs : PE c A env m H slice b)
    (h : ∀ W s u x, Ok c W s H → VR W u a → VR W x b → wpAny c.M A (subscriptTail value slice u x) (fun y s' => ∃ W', Post c W s H W' s' H ∧ VR W' y v) (fun _ _ => False) s) : PE c A env m H (.Subscript value slice pos) v := .mk fun W s ok fo =>
  Subscript_ (hv.run ok fo fun W1 s1 u p1 f1 r1 => hs.run p1.ok f1 fun W2 s2 x p2 _ r2 => wpAny_mono (h W2 s2 u x p2.ok (r1.mono p2.ext) r2) (fun _ _ ⟨W3, p3, r3⟩ => ⟨W3, (p1.trans p2).trans p3, r3⟩) fun _ _ z => z)
theorem OV.some {o : Option Value} {a : AV} (h : OV W o (some a)) : ∃ v, o = some v ∧ VR W v a := by
  cases o with
  | none => exact h.elim
  | some v => exact ⟨v, rfl, h⟩
theorem OV.none {o : Option Value} (h : OV W o none) : o = none := by
  cases o with
  | none => rfl
  | some v => exact h.elim
theorem OV.isSome {o : Option Value} {a : Option AV} (h : OV W o a) : o.isSome = a.isSome := by
  cases o <;> cases a <;> first | rfl | exact h.elim
theorem tail_type {value slice : Expr} {o i : Value} {T id : String} {Q : Value → Shared → Prop} {E : Value → Shared → Prop} (hT : s.TypeIs o T) (slot : Slot T "__getitem__" id)
    (h : wpAny c.M A (getItem o i) Q E s) (hs : subscripted slice false o i = operate [o, i] (getItem o i)) : wpAny c.M A (subscriptTail value slice o i) Q E s := tail_any hT slot.lookup h hs
/-- the index is no slice -/
def plainIdx : Expr → Bool
  | .Slice .. => false
  | _ => true
theorem subscripted_plain {e : Expr} (h : plainIdx e = true) (o i : Value) : subscripted e false o i = operate [o, i] (getItem o i) := by
  cases e <;> first | rfl | cases h
theorem pe_sub_dI {value slice : Expr} {pos : Pos} {d : Addr} {t : Tag} {l : List (Int × AV)} {k : Int} {v : AV} (hv : PE c A env m H value (.ref d)) (hs : PE c A env m H slice (.int k)) (hd : H d = some (t, .dI l)) (hl : look l k = some v) (hp : plainIdx slice = true := by rfl) :
    PE c A env m H (.Subscript value slice pos) v := pe_sub hv hs fun W s u x ok h1 ⟨tk, h2⟩ => by
  obtain rfl : u = .ref d := h1
  subst h2
  obtain ⟨kvs, D, kv, _⟩ := ok.dI hd
  have z := kv.look k
  rw [hl] at z
  obtain ⟨y, hy, r⟩ := z.some
  exact tail_type D.mapOf.typeIs slot_dict_getitem (wpAny_getItem_of (intKind_is _ _ _ _) D.mapOf hy (fin (Post.refl ok) r)) (subscripted_plain hp _ _)
theorem pe_sub_dS {value slice : Expr} {pos : Pos} {d : Addr} {t : Tag} {l : List (Str × AV)} {k : Str} {v : AV} (hv : PE c A env m H value (.ref d)) (hs : PE c A env m H slice (.str k)) (hd : H d = some (t, .dS l)) (hl : look l k = some v) (hp : plainIdx slice = true := by rfl) :
    PE c A env m H (.Subscript value slice pos) v := pe_sub hv hs fun W s u x ok h1 ⟨tk, h2⟩ => by
  obtain rfl : u = .ref d := h1
  subst h2
  obtain ⟨kvs, D, kv, _⟩ := ok.dS hd
  have z := kv.look k
  rw [hl] at z
  obtain ⟨y, hy, r⟩ := z.some
  exact tail_type D.mapOf.typeIs slot_dict_getitem (wpAny_getItem_of (strKind_is _ _ _ _) D.mapOf hy (fin (Post.refl ok) r)) (subscripted_plain hp _ _)
theorem pe_sub_dP {value slice : Expr} {pos : Pos} {d : Addr} {t : Tag} {l : List ((Int × Int) × AV)} {k : Int × Int} {v : AV} (hu : A.units + 1 < cLine) (hv : PE c A env m H value (.ref d)) (hs : PE c A env m H slice (.tup [.int k.1, .int k.2])) (hd : H d = some (t, .dP l)) (hl : look l k = some v) (hp : plainIdx slice = true := by rfl) :
    PE c A env m H (.Subscript value slice pos) v := pe_sub hv hs fun W s u x ok h1 ⟨ka, h2, h3⟩ => by
  obtain rfl : u = .ref d := h1
  subst h2
  obtain ⟨xs, D, kv, _⟩ := ok.dP hd
  have z := kv.look k
  rw [hl] at z
  obtain ⟨y, hy, r⟩ := z.some
  obtain ⟨p, hp1, hp2⟩ := Option.map_eq_some_iff.mp hy
  subst hp2
  exact tail_type D.typeIs slot_dict_getitem (wpAny_getItem_heap (knd := tupleKind (intKind c.prog c.w)) hu (ok.isPair h3) D hp1 (fin (Post.refl ok) r)) (subscripted_plain hp _ _)
theorem All2.get {α β : Type} {R : α → β → Prop} {l : List α} {l' : List β} (h : All2 R l l') : ∀ {i : Nat} {y : β}, l'[i]? = some y → ∃ x, l[i]? = some x ∧ R x y := by
  induction h with
  | nil => intro i y e; simp at e
  | cons a _ ih =>
    intro i y e
    cases i with
    | zero => simp at e; subst e; exact ⟨_, rfl, a⟩
    | succ i => simpa using ih (by simpa using e)
theorem Ok.isList (ok : Ok c W s H) {a : Addr} {t : Tag} {l : List AV} (h : H a = some (t, .list l)) : ∃ vs : List Value, s.heap.IsList a vs.toArray ∧ All2 (VR W) vs l ∧ l.length ≤ 1000 := by
  obtain ⟨ob, g, vs, n, hc, r, z⟩ := ok.get h
  exact ⟨vs, ⟨_, g, hc.1, n, hc.2⟩, r, z⟩
theorem pe_sub_list {value slice : Expr} {pos : Pos} {d : Addr} {t : Tag} {l : List AV} {k : Int} {v : AV} (hv : PE c A env m H value (.ref d)) (hs : PE c A env m H slice (.int k)) (hd : H d = some (t, .list l)) (h0 : 0 ≤ k) (hl : l[k.toNat]? = some v) (hp : plainIdx slice = true := by rfl) :
    PE c A env m H (.Subscript value slice pos) v := pe_sub hv hs fun W s u x ok h1 ⟨tk, h2⟩ => by
  obtain rfl : u = .ref d := h1
  subst h2
  obtain ⟨vs, D, r, z⟩ := ok.isList hd
  obtain ⟨y, hy, r⟩ := r.get hl
  have hlt := (List.getElem?_eq_some_iff.mp hl).1
  exact tail_type (let ⟨o, ho, hc, _⟩ := D; ⟨o, ho, hc⟩) slot_list_getitem (wpAny_getItem_list D h0 (by omega) (by simpa using hy) (fin0 (Post.refl ok) r)) (subscripted_plain hp _ _)
theorem Ok.isTup (ok : Ok c W s H) {a : Addr} {l : List AV} (h : W a = some (.tup l)) : ∃ vs : List Value, IsTup s.heap a vs.toArray ∧ All2 (VR W) vs l := by
  obtain ⟨_, _, ob, g, vs, n, rfl, r⟩ := ok.frz a _ h
  exact ⟨vs, ⟨_, g, rfl, n, rfl⟩, r⟩
theorem pe_sub_tup {value slice : Expr} {pos : Pos} {l : List AV} {k : Int} {v : AV} (hv : PE c A env m H value (.tup l)) (hs : PE c A env m H slice (.int k)) (h0 : 0 ≤ k) (h63 : k < 2 ^ 63) (hl : l[k.toNat]? = some v) (hp : plainIdx slice = true := by rfl) :
    PE c A env m H (.Subscript value slice pos) v := pe_sub hv hs fun W s u x ok ⟨a, h1, h3⟩ ⟨tk, h2⟩ => by
  subst h1 h2
  obtain ⟨vs, D, r⟩ := ok.isTup h3
  have hlt := (List.getElem?_eq_some_iff.mp hl).1
  have hlen := r.length
  obtain ⟨y, hy, r⟩ := r.get hl
  refine item_tupleT (j := k.toNat) D (by omega) h63 ?_ hy (fin0 (Post.refl ok) r) (subscripted_plain hp _ _)
  unfold seqIndex?
  rw [hlen]
  simp [h0, hlt]
  omega

/-! ### comparisons -/
theorem pe_cmp {l r : Expr} {op : CmpOp} {pos : Pos} {a b v : AV} (hl : PE c A env m H l a) (hr : PE c A env m H r b)
    (h : ∀ W s u x, Ok c W s H → VR W u a → VR W x b → wpAny c.M A (compareOp op u x) (fun y s' => ∃ W', Post c W s H W' s' H ∧ VR W' y v) (fun _ _ => False) s) (hm : behindInMarks op r = false := by rfl) : PE c A env m H (.Compare l [op] [r] pos) v := .mk fun W s ok fo =>
  wpAny_Compare1 (hl.run ok fo fun W1 s1 u p1 f1 r1 => hr.run p1.ok f1 fun W2 s2 x p2 _ r2 => wpAny_mono (h W2 s2 u x p2.ok (r1.mono p2.ext) r2) (fun _ _ ⟨W3, p3, r3⟩ => ⟨W3, (p1.trans p2).trans p3, r3⟩) fun _ _ z => z) hm
theorem pb_cmp {l r : Expr} {op : CmpOp} {pos : Pos} {a b : AV} {v : Bool} (hl : PE c A env m H l a) (hr : PE c A env m H r b)
    (h : ∀ W s u x, Ok c W s H → VR W u a → VR W x b → wpAny c.M A (compareOp op u x) (fun y s' => ∃ W', Post c W s H W' s' H ∧ VR W' y (.bool v)) (fun _ _ => False) s) (hm : behindInMarks op r = false := by rfl) : PB c A env m H (.Compare l [op] [r] pos) v := .mk fun W s ok fo =>
  wpAny_isTrue_Compare1 (hl.run ok fo fun W1 s1 u p1 f1 r1 => hr.run p1.ok f1 fun W2 s2 x p2 _ r2 => wpAny_mono (h W2 s2 u x p2.ok (r1.mono p2.ext) r2) (fun y _ ⟨W3, p3, r3⟩ => by
    obtain rfl : y = .bool v := r3
    exact wpAny_truthy_bool ⟨W3, (p1.trans p2).trans p3, rfl⟩) fun _ _ z => z) hm

/-- what a comparison of abstract values answers, where it is pure -/
def CmpIs (c : Cx) (A : Around) (H : AHeap) (op : CmpOp) (a b : AV) (v : Bool) : Prop :=
  ∀ W s u x, Ok c W s H → VR W u a → VR W x b → wpAny c.M A (compareOp op u x) (fun y s' => ∃ W', Post c W s H W' s' H ∧ VR W' y (.bool v)) (fun _ _ => False) s
theorem cmp_eq_int {a b : Int} : CmpIs c A H .Eq (.int a) (.int b) (a == b) := fun _ _ _ _ ok ⟨_, h1⟩ ⟨_, h2⟩ => by subst h1 h2; exact eq_int (fin0 (Post.refl ok) VR.bool')
theorem cmp_ne_int {a b : Int} : CmpIs c A H .NotEq (.int a) (.int b) (a != b) := fun _ _ _ _ ok ⟨_, h1⟩ ⟨_, h2⟩ => by subst h1 h2; exact ne_int (fin0 (Post.refl ok) VR.bool')
theorem cmp_lt_int {a b : Int} : CmpIs c A H .Lt (.int a) (.int b) (decide (a < b)) := fun _ _ _ _ ok ⟨_, h1⟩ ⟨_, h2⟩ => by subst h1 h2; exact lt_int (fin0 (Post.refl ok) VR.bool')
theorem cmp_in_dI {k : Int} {d : Addr} {t : Tag} {l : List (Int × AV)} (hd : H d = some (t, .dI l)) : CmpIs c A H .In (.int k) (.ref d) (look l k).isSome := fun W s u x ok ⟨_, h1⟩ h2 => by
  subst h1; obtain rfl : x = .ref d := h2
  obtain ⟨kvs, D, kv, _⟩ := ok.dI hd
  rw [← (kv.look k).isSome]
  exact wpAny_in_of (intKind_is _ _ _ _) (c.noMods (ok.own _ _ _ hd).1) D.mapOf (fin (Post.refl ok) VR.bool')
theorem cmp_nin_dI {k : Int} {d : Addr} {t : Tag} {l : List (Int × AV)} (hd : H d = some (t, .dI l)) : CmpIs c A H .NotIn (.int k) (.ref d) (!(look l k).isSome) := fun W s u x ok ⟨_, h1⟩ h2 => by
  subst h1; obtain rfl : x = .ref d := h2
  obtain ⟨kvs, D, kv, _⟩ := ok.dI hd
  rw [← (kv.look k).isSome]
  exact wpAny_notIn_of (intKind_is _ _ _ _) (c.noMods (ok.own _ _ _ hd).1) D.mapOf (fin (Post.refl ok) VR.bool')
theorem atKey_map_isSome (xs : List (List Int × Addr × Value)) (k : List Int) : ((atKey xs k).map (·.2)).isSome = (atKey xs k).isSome := by cases atKey xs k <;> rfl
theorem cmp_in_dP (hu : A.units + 1 < cLine) {k : Int × Int} {d : Addr} {t : Tag} {l : List ((Int × Int) × AV)} (hd : H d = some (t, .dP l)) : CmpIs c A H .In (.tup [.int k.1, .int k.2]) (.ref d) (look l k).isSome := fun W s u x ok ⟨ka, h1, h3⟩ h2 => by
  subst h1; obtain rfl : x = .ref d := h2
  obtain ⟨xs, D, kv, _⟩ := ok.dP hd
  rw [← (kv.look k).isSome, atKey_map_isSome]
  exact wpAny_in_heap (knd := tupleKind (intKind c.prog c.w)) hu (ok.isPair h3) (c.noMods (ok.own _ _ _ hd).1) D (fin (Post.refl ok) VR.bool')
theorem is_none_of {a : AV} (h : match a with | .none => False | .con _ => False | _ => True) {W : WM} {u : Value} (r : VR W u a) : (u == Value.none) = false := by
  cases a with
  | none => exact h.elim
  | con => exact h.elim
  | bool b => obtain rfl : u = .bool b := r; rfl
  | int i => obtain ⟨t, rfl⟩ := r; rfl
  | str x => obtain ⟨t, rfl⟩ := r; rfl
  | ref a => obtain rfl : u = .ref a := r; rfl
  | tup l => obtain ⟨a, rfl, _⟩ := r; rfl
  | fd l => obtain ⟨a, rfl, _⟩ := r; rfl
theorem cmp_is_none_f {a : AV} (h : match a with | .none => False | .con _ => False | _ => True := by trivial) : CmpIs c A H .Is a .none false := fun W s u x ok r h2 => by
  obtain rfl : x = .none := h2
  exact PySem.is_none (by rw [is_none_of h r]; exact fin0 (Post.refl ok) VR.bool')
theorem cmp_is_none_t : CmpIs c A H .Is .none .none true := fun W s u x ok h1 h2 => by
  obtain rfl : u = .none := h1
  obtain rfl : x = .none := h2
  exact PySem.is_none (fin0 (Post.refl ok) VR.bool')
theorem pb_not {e : Expr} {pos : Pos} {b : Bool} (h : PB c A env m H e b) : PB c A env m H (.UnaryOp .Not e pos) (!b) := .mk fun W s ok fo =>
  wpAny_isTrue_Not (h.run ok fo fun W1 s1 x p1 _ r1 => ⟨W1, p1, by rw [show x = b from r1]⟩)
theorem pb_bool {e : Expr} {b : Bool} (h : PE c A env m H e (.bool b)) (hs : isTrue e env (eval e env) = (do let v ← eval e env; standAt e.pos; holding [v] (truthy v)) := by rfl) : PB c A env m H e b := .mk fun W s ok fo =>
  wpAny_isTrue_value (h.run ok fo fun W1 s1 x p1 _ r1 => by
    obtain rfl : x = .bool b := r1
    exact wpAny_truthy_bool ⟨W1, p1, rfl⟩) hs
theorem pe_if {test body orelse : Expr} {pos : Pos} {b : Bool} {v : AV} (ht : PB c A env m H test b) (h : if b = true then PE c A env m H body v else PE c A env m H orelse v) : PE c A env m H (.IfExp test body orelse pos) v := .mk fun W s ok fo =>
  wpAny_IfExp (ht.run ok fo fun W1 s1 x p1 f1 r1 => by
    obtain rfl : x = b := r1
    cases x with
    | true => exact (show PE c A env m H body v from h).run p1.ok f1 fun W2 s2 y p2 _ r2 => ⟨W2, p1.trans p2, r2⟩
    | false => exact (show PE c A env m H orelse v from h).run p1.ok f1 fun W2 s2 y p2 _ r2 => ⟨W2, p1.trans p2, r2⟩)

/-! ### displays of tuples -/
theorem pl_nil {pos : Pos} : PT (fun W => All2 (VR W)) c A env m H (spliced (backTo pos (starEach [] env))) [] := fun W s ok _ => wpAny_items_nil (fin0 (Post.refl ok) .nil)
theorem pl_cons {e : Expr} {rest : List Expr} {pos : Pos} {v : AV} {vs : List AV} (h : PE c A env m H e v) (hr : PT (fun W => All2 (VR W)) c A env m H (spliced (backTo pos (starEach rest env))) vs) (hs : starEach (e :: rest) env = (false, eval e env) :: starEach rest env := by rfl) :
    PT (fun W => All2 (VR W)) c A env m H (spliced (backTo pos (starEach (e :: rest) env))) (v :: vs) := fun W s ok fo =>
  wpAny_items_cons (h.run ok fo fun W1 s1 x p1 f1 r1 => hr.run p1.ok f1 fun W2 s2 xs p2 _ r2 => ⟨W2, p1.trans p2, .cons (r1.mono p2.ext) r2⟩) hs
theorem pe_tuple {elts : List Expr} {k : Nat} {pos : Pos} {vs : List AV} (h : PT (fun W => All2 (VR W)) c A env m H (spliced (backTo pos (starEach elts env))) vs) (hz : vs.length ≤ 100 := by decide) : PE c A env m H (.Tuple elts k pos) (.tup vs) := .mk fun W s ok fo =>
  Tuple_ (h.run ok fo fun W1 s1 xs p1 f1 r1 => wpAny_newObj_type (by
      have q := p1.ok.freeze (v := .tup vs) (ob := { cls := .type "tuple", data := .seq xs.toArray }) (h' := s1.heap.push _) s1.toks (fun _ _ e => Heap.get?_push_of_some _ e) (by rw [Heap.size_push]; exact Nat.le_succ _) (Heap.get?_push_size _ rfl) ⟨xs, 0, rfl, r1⟩
      exact ⟨_, p1.trans q, _, rfl, updW_same⟩) (by
      show xs.toArray.size ≤ sizeLine
      have := r1.length
      rw [List.size_toArray, sizeLine_eq]
      omega))
end
end Nx
end
section
set_option autoImplicit false
namespace Nx

inductive AFl where
  | next | brk | cont
  | ret (v : AV)
def RFl (W : WM) (f : Flow) : AFl → Prop
  | .next => f = .next
  | .brk => f = .brk
  | .cont => f = .cont
  | .ret a => ∃ v, f = .ret v ∧ VR W v a
theorem RFl.next' {W : WM} : RFl W .next .next := rfl
def setm (m : LM) (x : Str) (v : AV) : LM := fun y => if y = x then some v else m y

structure AS (nf : Bool) (c : Cx) (A : Around) (env : Env) (m : LM) (H : AHeap) (ss : List Stmt) (Q : AFl → LM → AHeap → Prop) (E : AV → LM → AHeap → Prop) : Prop where
  ag : AG RFl nf c A env m H (execs ss env) Q E
structure A1 (nf : Bool) (c : Cx) (A : Around) (env : Env) (m : LM) (H : AHeap) (st : Stmt) (Q : AFl → LM → AHeap → Prop) (E : AV → LM → AHeap → Prop) : Prop where
  ag : AG RFl nf c A env m H (exec st env) Q E
structure AL (nf : Bool) (c : Cx) (A : Around) (env : Env) (m : LM) (H : AHeap) (pos : Pos) (es : List Expr) (Q : List AV → LM → AHeap → Prop) (E : AV → LM → AHeap → Prop) : Prop where
  ag : AG (fun W => All2 (VR W)) nf c A env m H (spliced (backTo pos (starEach es env))) Q E

section
variable {nf : Bool} {c : Cx} {A : Around} {env : Env} {m : LM} {H : AHeap} {E : AV → LM → AHeap → Prop} {W : WM} {s : Shared}

theorem AG.mono {α β : Type} {R : WM → α → β → Prop} {t : Sem α} {Q Q' : β → LM → AHeap → Prop} {E' : AV → LM → AHeap → Prop} (h : AG R nf c A env m H t Q E) (hQ : ∀ y m' H', Q y m' H' → Q' y m' H') (hE : ∀ y m' H', E y m' H' → E' y m' H') : AG R nf c A env m H t Q' E' :=
  fun W s ok fo => (h W s ok fo).mono hQ hE
/-- the rest, from where an effect left -/
theorem AG.run {α β : Type} {R : WM → α → β → Prop} {t : Sem α} {Q : β → LM → AHeap → Prop} (h : AG R nf c A env m H t Q E) (ok : Ok c W s H) (fo : Fo c W s H env A m) {P : α → Shared → Prop}
    (k : ∀ W' s' m' H' x y, PostX c env.locals W s H W' s' H' → Fo c W' s' H' env A m' → R W' x y → Q y m' H' → P x s') :
    wpN nf c.M A t P (fun e s' => ∃ W' H' m' y, PostX c env.locals W s H W' s' H' ∧ Fo c W' s' H' env A m' ∧ VR W' e y ∧ E y m' H') s :=
  wpN_mono (h W s ok fo) (fun x s' ⟨W', H', m', y, p, f, r, q⟩ => k W' s' m' H' x y p f r q) fun _ _ z => z

theorem as_nil {Q : AFl → LM → AHeap → Prop} (h : Q .next m H) : AS nf c A env m H [] Q E := .mk fun _ _ ok fo => wpN_of (wpAny_execs_nil (stay0 ok fo RFl.next' h))
theorem as_cons {st : Stmt} {rest : List Stmt} {Q : AFl → LM → AHeap → Prop} (h : A1 nf c A env m H st (fun f m' H' => match f with | .next => AS nf c A env m' H' rest Q E | f => Q f m' H') E) : AS nf c A env m H (st :: rest) Q E := .mk fun W s ok fo =>
  wpN_execs_cons (AG.run h.ag ok fo fun W' s' m' H' x y p f r q => by
    cases y with
    | next => obtain rfl : x = .next := r; exact G.from p (q.ag W' s' p.ok f)
    | brk => obtain rfl : x = .brk := r; exact ⟨W', H', m', .brk, p, f, rfl, q⟩
    | cont => obtain rfl : x = .cont := r; exact ⟨W', H', m', .cont, p, f, rfl, q⟩
    | ret a => obtain ⟨v, rfl, r⟩ := r; exact ⟨W', H', m', .ret a, p, f, ⟨v, rfl, r⟩, q⟩)
theorem al_nil {pos : Pos} {Q : List AV → LM → AHeap → Prop} (h : Q [] m H) : AL nf c A env m H pos [] Q E := .mk fun _ _ ok fo => wpN_of (wpAny_items_nil (stay0 ok fo .nil h))
theorem al_cons {pos : Pos} {e : Expr} {rest : List Expr} {Q : List AV → LM → AHeap → Prop} (h : AE nf c A env m H e (fun v m' H' => AL nf c A env m' H' pos rest (fun vs m'' H'' => Q (v :: vs) m'' H'') E) E) (hs : starEach (e :: rest) env = (false, eval e env) :: starEach rest env := by rfl) : AL nf c A env m H pos (e :: rest) Q E := .mk fun W s ok fo =>
  wpN_items_cons (AG.run h.ag ok fo fun W1 s1 m1 H1 x v p1 f1 r1 q => G.from p1 (by
    have z := q.ag W1 s1 p1.ok f1
    refine wpN_mono z (fun xs s2 ⟨W2, H2, m2, vs, p2, f2, r2, q2⟩ => ⟨W2, H2, m2, v :: vs, p2, f2, .cons (r1.mono p2.ext) r2, q2⟩) fun _ _ z => z)) hs

/-- a name of the frame is bound -/
theorem store {x : Str} {u : Value} {v : AV} {Q : Unit → Shared → Prop} {E : Value → Shared → Prop} (ok : Ok c W s H) (fo : Fo c W s H env A m) (r : VR W u v)
    (h : ∀ s', PostX c env.locals W s H W s' H → Fo c W s' H env A (setm m x v) → Q () s') (hl : env.kindOf x = some .local) (hk : env.scope.kind = .function) : wpAny c.M A (storeName env x u) Q E s := by
  obtain ⟨mr, hn, hr⟩ := fo.ns
  refine wpAny_storeName_local hl hn (fun h' hn' hs => h _ ?_ ?_) (by rw [hk]; rfl)
  · refine ⟨⟨ok.old.step_same fo.new hs, (hs.2 _ (c.stat_ne fo.new)).trans ok.stat, ok.os, ok.bare, by rw [hs.1]; exact ok.low, fun b t o e => ?_, ok.gen, fun b a e => ?_⟩, Ext.refl W, fun b ob hb e _ _ _ => ⟨ob.slots, (hs.2 b hb).trans e⟩, by rw [hs.1]; exact Nat.le_refl _, fun _ z => .inl z, fun _ z => .inl z⟩
    · obtain ⟨h1, ob, h2, h3⟩ := ok.own b t o e
      exact ⟨h1, ob, (hs.2 b fun q => by rw [q, fo.un] at e; cases e).trans h2, h3⟩
    · obtain ⟨h1, h2, ob, h3, h4⟩ := ok.frz b a e
      exact ⟨h1, h2, ob, (hs.2 b fun q => by rw [q, fo.unW] at e; cases e).trans h3, h4⟩
  · obtain ⟨outer, h1, h2⟩ := fo.ff
    refine ⟨⟨_, hn', fun y => ?_⟩, fo.un, fo.unW, fo.new, ⟨outer, h1, fun e he => ?_⟩, fo.fr⟩
    · unfold setm
      by_cases e : y = x
      · simp only [if_pos e]; exact r
      · simp only [if_neg e]; exact hr y
    · obtain ⟨k, L, o, a, b, d, g, nf⟩ := h2 e he
      by_cases q : L = env.locals
      · subst q
        obtain ⟨o', es, ep, g', hd, _⟩ := hn'
        exact ⟨k, _, o', a, b, d, g', fun vs z => by rw [hd] at z; cases z⟩
      · exact ⟨k, L, o, a, b, d, (hs.2 L q).trans g, nf⟩

theorem a1_assignE {x : Str} {pos' pos : Pos} {value : Expr} {Q : AFl → LM → AHeap → Prop} (h : AE nf c A env m H value (fun v m' H' => Q .next (setm m' x v) H') E) (hl : env.kindOf x = some .local := by rfl) (hk : env.scope.kind = .function := by rfl) (hs : swapsWith value (some (.Name x pos')) pos.line env = pure false := by rfl) :
    A1 nf c A env m H (.Assign [.Name x pos'] value pos) Q E := .mk fun W s ok fo =>
  wpN_Assign_Name (AG.run h.ag ok fo fun W1 s1 m1 H1 u v p1 f1 r1 q => wpN_of <| store p1.ok f1 r1 (fun s2 p2 f2 => ⟨W1, H1, _, .next, p1.trans p2, f2, rfl, q⟩) hl hk) hs
theorem a1_assign {x : Str} {pos' pos : Pos} {value : Expr} {v : AV} {Q : AFl → LM → AHeap → Prop} (h : PE c A env m H value v) (q : Q .next (setm m x v) H) (hl : env.kindOf x = some .local := by rfl) (hk : env.scope.kind = .function := by rfl) (hs : swapsWith value (some (.Name x pos')) pos.line env = pure false := by rfl) :
    A1 nf c A env m H (.Assign [.Name x pos'] value pos) Q E := a1_assignE (.mk (h.pt.use q)) hl hk hs
theorem a1_returnE {e : Expr} {pos : Pos} {Q : AFl → LM → AHeap → Prop} (h : AE nf c A env m H e (fun v m' H' => Q (.ret v) m' H') E) : A1 nf c A env m H (.Return (some e) pos) Q E := .mk fun W s ok fo =>
  wpN_Return_some (AG.run h.ag ok fo fun W1 s1 m1 H1 u v p1 f1 r1 q => ⟨W1, H1, m1, .ret v, p1, f1, ⟨u, rfl, r1⟩, q⟩)
theorem a1_return {e : Expr} {pos : Pos} {v : AV} {Q : AFl → LM → AHeap → Prop} (h : PE c A env m H e v) (q : Q (.ret v) m H) : A1 nf c A env m H (.Return (some e) pos) Q E := a1_returnE (.mk (h.pt.use q))
theorem a1_if {test : Expr} {body orelse : List Stmt} {pos : Pos} {b : Bool} {Q : AFl → LM → AHeap → Prop} (ht : PB c A env m H test b) (h : if b = true then AS nf c A env m H body Q E else AS nf c A env m H orelse Q E) : A1 nf c A env m H (.If test body orelse pos) Q E := .mk fun W s ok fo =>
  wpN_If (wpN_of <| ht.run ok fo fun W1 s1 x p1 f1 r1 => by
    obtain rfl : x = b := r1
    cases x with
    | true => exact G.from (p1.x _) ((show AS nf c A env m H body Q E from h).ag W1 s1 p1.ok f1)
    | false => exact G.from (p1.x _) ((show AS nf c A env m H orelse Q E from h).ag W1 s1 p1.ok f1))
theorem a1_pass {pos : Pos} {Q : AFl → LM → AHeap → Prop} (h : Q .next m H) : A1 nf c A env m H (.Pass pos) Q E := .mk fun _ _ ok fo => wpN_of (wpAny_Pass (stay0 ok fo RFl.next' h))
/-- a call whose value is dropped: it gives None -/
theorem a1_expr {e : Expr} {pos : Pos} {Q : AFl → LM → AHeap → Prop} (h : AE nf c A env m H e (fun v m' H' => v = .none ∧ Q .next m' H') E) (hi : interactive env = false := by rfl) (hs : swapsWith e none pos.line env = pure false := by rfl) : A1 nf c A env m H (.Expr e pos) Q E := .mk fun W s ok fo =>
  wpN_Expr (AG.run h.ag ok fo fun W1 s1 m1 H1 u v p1 f1 r1 ⟨h1, q⟩ => by
    subst h1
    obtain rfl : u = .none := r1
    exact ⟨W1, H1, m1, .next, p1, f1, rfl, q⟩) hi hs

/-! ### calls -/
/-- a callable, called where H stands -/
def CallOk (nf : Bool) (c : Cx) (A : Around) (H : AHeap) (f : Value) (args : List AV) (kw : List (Str × AV)) (Q : AV → AHeap → Prop) (E : AV → AHeap → Prop) : Prop :=
  ∀ W s vs kvs outer, Ok c W s H → A.frames = some outer → FF c W s.heap H outer → All2 (VR W) vs args → KV W kvs kw →
    codeN nf c.M A (.call f ⟨vs, kvs⟩) (fun r s' => match r with
      | .ok (.ret v) => ∃ W' H' a, Post c W s H W' s' H' ∧ VR W' v a ∧ Q a H'
      | .ok _ => False
      | .error e => ∃ W' H' a, Post c W s H W' s' H' ∧ VR W' e a ∧ E a H') s
def KeepOk (c : Cx) (f : Value) : Prop := ∀ h : Heap, c.K.In h → ∃ k, (k = Keeper.frame ∨ k = Keeper.machine ∨ k = Keeper.boundFrame) ∧ Looks c.M h (keeperOf f) k
theorem keep_K {f : Value} (h : keepIn c.K f = true) : KeepOk c f := fun hp X => keeps_K h hp X
theorem keep_builtin {i : String} : KeepOk c (.builtin i) := fun _ _ => ⟨_, .inr (.inl rfl), Looks.now⟩
theorem keep_type {i : String} : KeepOk c (.type i) := fun _ _ => ⟨_, .inr (.inl rfl), Looks.now⟩

end
end Nx
end
section
set_option autoImplicit false
namespace Nx

section
variable {nf : Bool} {c : Cx} {A : Around} {env : Env} {m : LM} {H : AHeap} {E : AV → LM → AHeap → Prop} {W : WM} {s : Shared}

theorem nsFind_look {es : Array DictEntry} (hs : StrKeys es) (name : Str) : (match es.toList.find? (·.key.isStr name) with
      | some e => some (some e.val)
      | none => if es.toList.any (·.refKey) then none else some none) = some (nsFind es name) := by
  have hr : es.toList.any (·.refKey) = false := by
    rw [List.any_eq_false]
    intro e he
    obtain ⟨n, t, hk⟩ := hs e (Array.mem_toList_iff.mp he)
    simp [DictEntry.refKey, hk]
  rw [hr]
  unfold nsFind findBy
  rw [← Array.find?_toList]
  cases es.toList.find? (fun e => e.key.isStr name) <;> rfl
theorem isStr_of (x : Str) (v : Value) : Value.isStrOf x v = v.isStr x := by cases v <;> rfl
theorem strKeys_of {es : Array DictEntry} (h : KeysOf (strKind c.prog c.w) es) : StrKeys es := fun e he => by
  obtain ⟨k, hk, _⟩ := h e he
  obtain ⟨t, ht⟩ := Value.isStrOf_shape hk
  exact ⟨k, t, ht⟩
theorem nsFind_pairs {es : Array DictEntry} {kvs : List (Str × Value)} (h : Pairs (strKind c.prog c.w) es.toList kvs) (name : Str) : nsFind es name = valueAt kvs name := by
  rw [← h.find name]
  unfold nsFind findBy
  rw [← Array.find?_toList]
  congr 2
  funext e
  exact (isStr_of name e.key).symm
theorem Ok.inst (ok : Ok c W s H) {x C d : Addr} {t t' : Tag} {mm : List (Str × AV)} (h1 : H x = some (t, .inst C d)) (h2 : H d = some (t', .nS mm)) :
    ∃ od, PySem.W.InstAt s.heap x (instObj C d) C (some od) ∧ s.heap.get? d = some od ∧ ∀ name, ∃ r, lookIn name od = some r ∧ OV W r (look mm name) := by
  obtain ⟨ob, g, rfl⟩ := ok.get h1
  obtain ⟨od, g', kvs, es, ep, ⟨_, _, hd⟩, hk, hp, hn, kv, _⟩ := ok.get h2
  refine ⟨od, ⟨g, rfl, rfl, g'⟩, g', fun name => ⟨nsFind es name, ?_, by rw [nsFind_pairs hp]; exact kv.look name⟩⟩
  unfold lookIn
  rw [hd]
  exact nsFind_look (strKeys_of hk) name

/-- a class of the text, as instances see it -/
structure ClsOk (c : Cx) (C : Addr) : Prop where
  ga : findIn c.K (.ref C) "__getattribute__" = some (some (.builtin "object.__getattribute__"))
  gk : findIn c.K (.ref C) "__getattr__" = some none
  dict : hasDictIn c.K C = true
/-- what the class says of a name, and that it does not go ahead of the instance's own dict -/
structure Yields (c : Cx) (C : Addr) (name : Str) : Prop where
  cls : ClsOk c C
  attr : ∃ attr get, findIn c.K (.ref C) name = some attr ∧ (match attr with | some a => specialIn c.K a "__get__" | none => some none) = some get ∧ (match attr, get with | some a, some _ => takesIn c.K a | _, _ => some false) = some false
structure MethIs (c : Cx) (C : Addr) (name : Str) (f : Addr) : Prop where
  cls : ClsOk c C
  find : findIn c.K (.ref C) name = some (some (.ref f))
  fn : typeIn c.K (.ref f) = some (.type "function")

theorem findObj_first {C : Addr} {name : Str} {od : Obj} {v : Value} (y : Yields c C name) (h : lookIn name od = some (some v)) : findObj c.K C (some od) name = some (.value v) := by
  obtain ⟨attr, get, h1, h2, h3⟩ := y.attr
  have hd := y.cls.dict
  unfold hasDictIn at hd
  obtain ⟨cd, hc, hcd⟩ := any_some hd
  have ho : PySem.W.ownOf cd (some od) name = some (some v) := by
    unfold PySem.W.ownOf
    simp [hcd, h]
  unfold findObj
  rw [hc, Option.bind_some, h1, Option.bind_some]
  cases attr with
  | none => cases h2; simp [ho]
  | some a =>
    dsimp only at h2 ⊢
    rw [h2, Option.bind_some]
    cases get with
    | none => simp [ho]
    | some g =>
      dsimp only at h3 ⊢
      rw [h3, Option.bind_some]
      simp [ho]

def AV.plain : AV → Bool
  | .con _ => false
  | _ => true
theorem VR.handed {u : Value} {a : AV} (r : VR W u a) (h : a.plain = true := by rfl) : handedIn u = true := by
  cases a with
  | none => obtain rfl : u = .none := r; rfl
  | con => cases h
  | bool b => obtain rfl : u = .bool b := r; rfl
  | int i => obtain ⟨t, rfl⟩ := r; rfl
  | str x => obtain ⟨t, rfl⟩ := r; rfl
  | ref a => obtain rfl : u = .ref a := r; rfl
  | tup l => obtain ⟨a, rfl, _⟩ := r; rfl
  | fd l => obtain ⟨a, rfl, _⟩ := r; rfl
theorem pe_attr {o : Expr} {name : Str} {pos : Pos} {x C d : Addr} {t t' : Tag} {mm : List (Str × AV)} {v : AV} (ho : PE c A env m H o (.ref x)) (h1 : H x = some (t, .inst C d)) (h2 : H d = some (t', .nS mm)) (hy : Yields c C name) (hv : look mm name = some v)
    (hh : v.plain = true := by rfl) (he : eval (.Attribute o name pos) env = (do let ov ← eval o env; standAt pos.atName; let r ← holding [ov] (getAttr ov name true); letTemporaryGo o ov r; pure r) := by rfl) : PE c A env m H (.Attribute o name pos) v := .mk fun W s ok fo =>
  Attribute_any_ (ho.run ok fo fun W1 s1 u p1 f1 r1 => by
    obtain rfl : u = .ref x := r1
    obtain ⟨od, I, g, L⟩ := p1.ok.inst h1 h2
    obtain ⟨r, hr, hor⟩ := L name
    rw [hv] at hor
    obtain ⟨y, rfl, r2⟩ := hor.some
    exact get_value p1.ok.kin I hy.cls.ga (findObj_first hy hr) (r2.handed hh) (fin p1 r2)) he

/-- a def of the text -/
structure FnIs (c : Cx) (f : Addr) (qual : Str) (params : Arguments) (body : List Stmt) (scope : Scope) (dV kV cdv : Value) : Prop where
  at_ : ∃ name doc pm an ct oc od osl, c.K.lookup f = some ⟨oc, od, .func (fnOf name qual params body scope dV kV doc pm an cdv ct), osl⟩
  code : codeIn c.K cdv qual = true
  co : scope.isCoroutine = false
  kind : scope.kind = .function
  cells : (scope.names.all fun x => x.2 != .cell) = true
theorem FnIs.keep {f : Addr} {qual : Str} {params : Arguments} {body : List Stmt} {scope : Scope} {dV kV cdv : Value} (h : FnIs c f qual params body scope dV kV cdv) : KeepOk c (.ref f) := by
  obtain ⟨name, doc, pm, an, ct, oc, od, osl, e⟩ := h.at_
  exact keep_K (by unfold keepIn; simp only [e])

/-- the binding of a call's arguments -/
def BindOk (c : Cx) (A : Around) (H : AHeap) (qual : Str) (params : Arguments) (body : List Stmt) (scope : Scope) (dV kV cdv : Value) (args : List AV) (kw : List (Str × AV)) (P : List (Str × AV) → AHeap → Prop) : Prop :=
  ∀ name doc pm an ct W s vs kvs, Ok c W s H → All2 (VR W) vs args → KV W kvs kw →
    wpAny c.M A.in1 (bindArgs (fnOf name qual params body scope dV kV doc pm an cdv ct) ⟨vs, kvs⟩) (fun bs s' => ∃ W' H' ab, Post c W s H W' s' H' ∧ KV W' bs ab ∧ P ab H') (fun _ _ => False) s
def lm (ab : List (Str × AV)) : LM := fun x => ab.reverse.lookup x

/-- an exception leaves the frame -/
def Leaves (c : Cx) (A : Around) (env : Env) (E : AV → AHeap → Prop) (e : AV) (m : LM) (H : AHeap) : Prop :=
  ∀ W s v, Ok c W s H → Fo c W s H env A m → VR W v e → wpAny c.M A (leaving env v) (fun _ s' => ∃ W' H', PostX c env.locals W s H W' s' H' ∧ E e H') (fun _ _ => False) s

theorem KV.lookup_reverse {bs : List (Str × Value)} {ab : List (Str × AV)} (h : KV W bs ab) (x : Str) : OV W (bs.reverse.lookup x) (ab.reverse.lookup x) := by
  have app : ∀ {l1 : List (Str × Value)} {l2 : List (Str × AV)} {r1 : List (Str × Value)} {r2 : List (Str × AV)}, All2 (fun p q => p.1 = q.1 ∧ VR W p.2 q.2) l1 l2 → All2 (fun p q => p.1 = q.1 ∧ VR W p.2 q.2) r1 r2 → All2 (fun (p : Str × Value) (q : Str × AV) => p.1 = q.1 ∧ VR W p.2 q.2) (l1 ++ r1) (l2 ++ r2) := by
    intro l1 l2 r1 r2 a b
    induction a with
    | nil => exact b
    | cons x _ ih => exact .cons x ih
  have rev : All2 (fun p q => p.1 = q.1 ∧ VR W p.2 q.2) bs.reverse ab.reverse := by
    unfold KV at h
    induction h with
    | nil => exact .nil
    | cons a _ ih => rw [List.reverse_cons, List.reverse_cons]; exact app ih (.cons a .nil)
  generalize bs.reverse = l1 at rev
  generalize ab.reverse = l2 at rev
  induction rev with
  | nil => exact trivial
  | @cons p q xs ys a _ ih =>
    obtain ⟨p1, p2⟩ := p
    obtain ⟨q1, q2⟩ := q
    obtain ⟨rfl, r⟩ := a
    rw [List.lookup_cons, List.lookup_cons]
    cases (x == p1) with
    | true => exact r
    | false => exact ih
theorem PostX.close {L : Addr} {W W' W'' : WM} {s s' s'' : Shared} {H H' H'' : AHeap} (p : Post c W s H W' s' H') (q : PostX c L W' s' H' W'' s'' H'') (hL : s.heap.objs.size ≤ L) : Post c W s H W'' s'' H'' where
  ok := q.ok
  ext := p.ext.trans q.ext
  keep := fun b ob hb hH hB hd => by
    obtain ⟨sl, h1⟩ := p.keep b ob hb hH hB hd
    have h2 : H' b = none := by
      cases z : H' b with
      | none => rfl
      | some o =>
        rcases p.dom b (by rw [z]; exact fun z => nomatch z) with z | z
        · exact absurd hH z
        · exact absurd (Heap.lt_size hb) (Nat.not_lt.mpr z)
    obtain ⟨sl', h3⟩ := q.keep b _ (Nat.ne_of_lt (Nat.lt_of_lt_of_le (Heap.lt_size hb) hL)) h1 h2 hB hd
    exact ⟨sl', h3⟩
  size := Nat.le_trans p.size q.size
  dom := fun b hb => by
    rcases q.dom b hb with z | z
    · exact p.dom b z
    · exact .inr (Nat.le_trans p.size z)
  wdom := fun b hb => by
    rcases q.wdom b hb with z | z | z
    · exact p.wdom b z
    · exact .inr (p.dom b z)
    · exact .inr (.inr (Nat.le_trans p.size z))

theorem call_fn {f : Addr} {qual : Str} {params : Arguments} {body : List Stmt} {scope : Scope} {dV kV cdv : Value} {args : List AV} {kw : List (Str × AV)} {P : List (Str × AV) → AHeap → Prop} {Q E : AV → AHeap → Prop}
    (hf : FnIs c f qual params body scope dV kV cdv) (hgen : scope.isGenerator = false) (hroom : A.depth < recursionLimit) (hb : BindOk c A H qual params body scope dV kV cdv args kw P)
    (hl : ∀ ab H', P ab H' → (ab.map (·.1)).all (fun y => scope.names.lookup y == some .local) = true)
    (h : ∀ L ab H', P ab H' → H' L = none → AS nf c (A.deeper (envOf qual scope L f cdv)) (envOf qual scope L f cdv) (lm ab) H' body
      (fun fl _ H'' => Q (match fl with | .ret v => v | _ => .none) H'') (fun e m'' H'' => Leaves c (A.deeper (envOf qual scope L f cdv)) (envOf qual scope L f cdv) E e m'' H'')) : CallOk nf c A H (.ref f) args kw Q E := by
  intro W s vs kvs outer ok hA hff hvs hkv
  obtain ⟨name, doc, pm, an, ct, oc, od, osl, e⟩ := hf.at_
  refine codeN_call_function (body := body) hroom (ok.kin _ _ e) rfl hf.co hgen rfl (codeRec_of ok.kin hf.code) ?_
  refine wpAny_mono (hb name doc pm an ct W s vs kvs ok hvs hkv) (fun bs s1 ⟨W1, H1, ab, p1, kb, hP⟩ => ?_) fun _ _ z => z.elim
  have hcell : ∀ x ∈ scope.names, x.2 ≠ .cell := fun x hx => by
    have := List.all_eq_true.mp hf.cells x hx
    simpa using this
  have hloc : ∀ x ∈ bs, scope.names.lookup x.1 = some .local := by
    have go : ∀ {l1 : List (Str × Value)} {l2 : List (Str × AV)}, KV W1 l1 l2 → (∀ y ∈ l2, scope.names.lookup y.1 = some .local) → ∀ x ∈ l1, scope.names.lookup x.1 = some .local := by
      intro l1 l2 hk
      unfold KV at hk
      induction hk with
      | nil => exact fun _ _ hx => nomatch hx
      | cons a _ ih =>
        intro hy x hx
        rcases List.mem_cons.mp hx with rfl | hx
        · rw [a.1]; exact hy _ (.head _)
        · exact ih (fun y hy' => hy y (.tail _ hy')) x hx
    exact go kb fun y hy => by
      have := List.all_eq_true.mp (hl ab H1 hP) y.1 (List.mem_map_of_mem hy)
      simpa using this
  refine wpAny_newFunctionEnv hcell hloc (fun h' hn hs => ?_) hf.kind
  have k : ∀ b o, s1.heap.get? b = some o → h'.get? b = some o := fun b o z => hs.extBut b o (Nat.ne_of_lt (Heap.lt_size z)) (Heap.get?_push_of_some _ z)
  have hsz : h'.objs.size = s1.heap.objs.size + 1 := by rw [hs.1, Heap.size_push]
  have p2 := p1.ok.grow (s1.toks + bs.length) k (by rw [hsz]; exact Nat.le_succ _)
  refine ⟨p2.ok.lim, codeN_func ?_⟩
  have hL1 := p1.ok.fresh
  have fo : Fo c W1 { s1 with heap := h', toks := s1.toks + bs.length } H1 (envOf qual scope s1.heap.objs.size f cdv) (A.deeper (envOf qual scope s1.heap.objs.size f cdv)) (lm ab) := by
    refine ⟨⟨_, hn, fun x => kb.lookup_reverse x⟩, hL1, p1.ok.freshW, p1.ok.low, ⟨outer, Around.frames_deeper hA, fun en hen => ?_⟩, rfl⟩
    rcases List.mem_cons.mp hen with rfl | hen
    · obtain ⟨o', es, ep, g, hd, _⟩ := hn
      exact ⟨by show scope.kind ≠ _; rw [hf.kind]; decide, _, o', rfl, p1.ok.low, ⟨hL1, p1.ok.freshW⟩, g, fun vs z => by rw [hd] at z; cases z⟩
    · exact ((hff.keep p1).keep p2) en hen
  have z := (h _ ab H1 hP hL1).ag W1 _ p2.ok fo
  refine wpN_mono z (fun fl s3 ⟨W3, H3, m3, y, p3, f3, r3, q3⟩ => ?_) (fun ev s3 ⟨W3, H3, m3, y, p3, f3, r3, q3⟩ => ?_)
  · have pp := PostX.close (p1.trans p2) p3 (by exact p1.size)
    cases y with
    | next => obtain rfl : fl = .next := r3; exact ⟨W3, H3, _, pp, VR.none', q3⟩
    | brk => obtain rfl : fl = .brk := r3; exact ⟨W3, H3, _, pp, VR.none', q3⟩
    | cont => obtain rfl : fl = .cont := r3; exact ⟨W3, H3, _, pp, VR.none', q3⟩
    | ret a => obtain ⟨v, rfl, r⟩ := r3; exact ⟨W3, H3, _, pp, r, q3⟩
  · refine wpAny_mono (q3 W3 s3 ev p3.ok f3 r3) (fun _ s4 ⟨W4, H4, p4, q4⟩ => ?_) fun _ _ z => z.elim
    exact ⟨W4, H4, y, PostX.close (p1.trans p2) (p3.trans p4) (by exact p1.size), r3.mono p4.ext, q4⟩

/-! ### the call's expression -/
theorem callWith_ok {f : Value} {first : List Value} {firstA : List AV} {pos pos' : Pos} {args : List Expr} {kws : List (Option Str × Sem Value)} {names : List Str} {Q : AV → LM → AHeap → Prop} (hk : KeepOk c f)
    (ok : Ok c W s H) (fo : Fo c W s H env A m) (hfa : All2 (VR W) first firstA)
    (ha : AL nf c A env m H pos args (fun vs m' H' => AG (fun W => All2 (VR W)) nf c A env m' H' (evalAll (kws.map (·.2))) (fun ks m'' H'' => ks.length = names.length ∧ CallOk nf c A H'' f (firstA ++ vs) (names.zip ks) (fun v H3 => Q v m'' H3) (fun e H3 => E e m'' H3)) E) E)
    (hn : kws.filterMap (·.1) = names) (hkw : kws.all (·.1.isSome) = true) (hp : (backTo pos (starEach args env)).any (·.1) = false) :
    G nf c A env VR Q E W s H (callWith pos' f first (backTo pos (starEach args env)) kws) := by
  refine callWith_ofN (P := fun h => c.K.In h) (by rw [hp, Bool.false_or, List.any_eq_false]; intro x hx; have := List.all_eq_true.mp hkw x hx; simp at this ⊢; exact Option.isSome_iff_ne_none.mp this) (fun h X => hk h X) ?_
  refine evalArgs_N hp hkw ?_
  refine AG.run ha.ag ok fo fun W1 s1 m1 H1 xs vs p1 f1 r1 q1 => ?_
  refine wpN_mono (q1 W1 s1 p1.ok f1) (fun ys s2 ⟨W2, H2, m2, ks, p2, f2, r2, hlen, q2⟩ => ⟨p2.ok.kin, ?_⟩) (fun e s2 ⟨W2, H2, m2, y, p2, f2, r2, q2⟩ => ⟨W2, H2, m2, y, p1.trans p2, f2, r2, q2⟩)
  have p12 := p1.trans p2
  have app : ∀ {l1 : List Value} {l2 : List AV} {r1 : List Value} {r2 : List AV}, All2 (VR W2) l1 l2 → All2 (VR W2) r1 r2 → All2 (VR W2) (l1 ++ r1) (l2 ++ r2) := by
    intro l1 l2 r1 r2 a b
    induction a with
    | nil => exact b
    | cons x _ ih => exact .cons x ih
  have hkv : KV W2 ((kws.filterMap (·.1)).zip ys) (names.zip ks) := by
    rw [hn]
    have go : ∀ {ns : List Str} {l1 : List Value} {l2 : List AV}, All2 (VR W2) l1 l2 → KV W2 (ns.zip l1) (ns.zip l2) := by
      intro ns l1 l2 a
      induction a generalizing ns with
      | nil => cases ns <;> exact .nil
      | cons x _ ih =>
        cases ns with
        | nil => exact .nil
        | cons n ns => exact .cons ⟨rfl, x⟩ ih
    exact go r2
  obtain ⟨outer, hA, hff⟩ := f2.ff
  refine wpN_call (codeN_mono (q2 W2 s2 _ _ _ p2.ok hA hff (app (VRs.mono p12.ext hfa) (VRs.mono p2.ext r1)) hkv) fun r s3 hr => ?_)
  rcases r with e | (_ | _ | _ | v)
  · obtain ⟨W3, H3, a, p3, r3, q3⟩ := hr
    exact ⟨W3, H3, m2, a, p12.trans (p3.x _), f2.keep p3, r3, q3⟩
  · exact hr
  · exact hr
  · exact hr
  · obtain ⟨W3, H3, a, p3, r3, q3⟩ := hr
    exact ⟨W3, H3, m2, a, p12.trans (p3.x _), f2.keep p3, r3, q3⟩
end
end Nx
end
section
set_option autoImplicit false
namespace Nx
section
variable {nf : Bool} {c : Cx} {A : Around} {env : Env} {m : LM} {H : AHeap} {E : AV → LM → AHeap → Prop} {W : WM} {s : Shared}

/-- keyword values, pure -/
structure PKw (c : Cx) (A : Around) (env : Env) (m : LM) (H : AHeap) (pos : Pos) (kws : List Keyword) (ks : List AV) : Prop where
  pt : PT (fun W => All2 (VR W)) c A env m H (evalAll ((backToKw pos (keywordEach kws env)).map (·.2))) ks
theorem kw_nil {pos : Pos} : PKw c A env m H pos [] [] := .mk fun W s ok _ => wpAny_pure (fin0 (Post.refl ok) .nil)
theorem kw_cons {pos p : Pos} {n : Option Str} {e : Expr} {rest : List Keyword} {v : AV} {vs : List AV} (h : PE c A env m H e v) (hr : PKw c A env m H pos rest vs) : PKw c A env m H pos (⟨n, e, p⟩ :: rest) (v :: vs) := .mk fun W s ok fo => by
  show wpAny _ _ ((do let v ← eval e env; standAt pos; pure v) >>= fun v => _ >>= fun _ => _) _ _ _
  exact wpAny_bind (wpAny_bind (h.run ok fo fun W1 s1 x p1 f1 r1 => wpAny_bind (wpAny_standAt (wpAny_pure (wpAny_bind (wpAny_holding (hr.pt.run p1.ok f1 fun W2 s2 xs p2 _ r2 => wpAny_pure ⟨W2, p1.trans p2, .cons (r1.mono p2.ext) r2⟩)))))))

/-- a def called by its name (or anything pure that gives it) -/
theorem ae_call {func : Expr} {args : List Expr} {kws : List Keyword} {pos : Pos} {fv : AV} {f : Value} {names : List Str} {Q : AV → LM → AHeap → Prop} (hf : PE c A env m H func fv) (hfv : ∀ W u, VR W u fv → u = f) (hk : KeepOk c f)
    (ha : AL nf c A env m H pos args (fun vs m' H' => ∃ ks, PKw c A env m' H' pos kws ks ∧ ks.length = names.length ∧ CallOk nf c A H' f vs (names.zip ks) (fun v H3 => Q v m' H3) (fun e H3 => E e m' H3)) E)
    (hn : (backToKw pos (keywordEach kws env)).filterMap (·.1) = names := by rfl) (hkw : (backToKw pos (keywordEach kws env)).all (·.1.isSome) = true := by rfl) (hp : (backTo pos (starEach args env)).any (·.1) = false := by rfl)
    (he : eval (.Call func args kws pos) env = (do let fv ← eval func env; callWith pos fv [] (backTo pos (starEach args env)) (backToKw pos (keywordEach kws env))) := by rfl) : AE nf c A env m H (.Call func args kws pos) Q E := .mk fun W s ok fo => by
  show G nf c A env VR Q E W s H (eval _ env)
  rw [he]
  refine wpN_then (hf.run ok fo fun W1 s1 u p1 f1 r1 => ?_)
  obtain rfl := hfv _ _ r1
  refine G.from (p1.x _) (callWith_ok hk p1.ok f1 (.nil : All2 (VR W1) [] []) ?_ hn hkw hp)
  exact .mk (AG.mono ha.ag (fun vs m' H' ⟨ks, h1, h2, h3⟩ => h1.pt.use ⟨h2, h3⟩) fun _ _ _ z => z)

/-- a method of an instance's class -/
theorem ae_meth {o : Expr} {name : Str} {apos pos : Pos} {args : List Expr} {kws : List Keyword} {x C d f : Addr} {t t' : Tag} {mm : List (Str × AV)} {names : List Str} {Q : AV → LM → AHeap → Prop} (ho : PE c A env m H o (.ref x)) (h1 : H x = some (t, .inst C d)) (h2 : H d = some (t', .nS mm))
    (hm : MethIs c C name f) (hs : look mm name = none) (hk : KeepOk c (.ref f))
    (ha : AL nf c A env m H pos args (fun vs m' H' => ∃ ks, PKw c A env m' H' pos kws ks ∧ ks.length = names.length ∧ CallOk nf c A H' (.ref f) (.ref x :: vs) (names.zip ks) (fun v H3 => Q v m' H3) (fun e H3 => E e m' H3)) E)
    (hn : (backToKw pos (keywordEach kws env)).filterMap (·.1) = names := by rfl) (hkw : (backToKw pos (keywordEach kws env)).all (·.1.isSome) = true := by rfl) (hp : (backTo pos (starEach args env)).any (·.1) = false := by rfl)
    (he : ∃ pl, eval (.Call (.Attribute o name apos) args kws pos) env = (do
      let ov ← eval o env
      standAt apos.atName
      let (f, first) ← holding [ov] (getMethod ov name pl)
      callWith pos f first (backTo pos (starEach args env)) (backToKw pos (keywordEach kws env))) := by exact ⟨_, rfl⟩) : AE nf c A env m H (.Call (.Attribute o name apos) args kws pos) Q E := .mk fun W s ok fo => by
  obtain ⟨pl, he⟩ := he
  show wpN _ _ _ (eval _ env) _ _ _
  rw [he]
  refine wpN_then (ho.run ok fo fun W1 s1 u p1 f1 r1 => wpN_bind (wpN_standAt (wpN_bind (wpN_holding (wpN_of ?_)))))
  obtain rfl : u = .ref x := r1
  obtain ⟨od, I, g, L⟩ := p1.ok.inst h1 h2
  obtain ⟨r, hr, hor⟩ := L name
  rw [hs] at hor
  obtain rfl := hor.none
  refine method_fn p1.ok.kin I hm.cls.ga hm.cls.gk hm.find hm.fn (by show (lookIn name od).map _ = _; rw [hr]; rfl) ?_
  refine G.from (p1.x _) (callWith_ok hk p1.ok f1 (.cons VR.ref' .nil : All2 (VR W1) [.ref x] [.ref x]) ?_ hn hkw hp)
  exact .mk (AG.mono ha.ag (fun vs m' H' ⟨ks, h1, h2, h3⟩ => h1.pt.use ⟨h2, h3⟩) fun _ _ _ z => z)

theorem CallOk.mono {f : Value} {args : List AV} {kw : List (Str × AV)} {Q Q' E E' : AV → AHeap → Prop} (h : CallOk nf c A H f args kw Q E) (hQ : ∀ v H', Q v H' → Q' v H') (hE : ∀ v H', E v H' → E' v H') : CallOk nf c A H f args kw Q' E' :=
  fun W s vs kvs outer ok hA hff hv hk => codeN_mono (h W s vs kvs outer ok hA hff hv hk) fun r s' z => by
    rcases r with e | (_ | _ | _ | v)
    · obtain ⟨W', H', a, p, r, q⟩ := z; exact ⟨W', H', a, p, r, hE _ _ q⟩
    · exact z
    · exact z
    · exact z
    · obtain ⟨W', H', a, p, r, q⟩ := z; exact ⟨W', H', a, p, r, hQ _ _ q⟩

/-- setting an item of a list -/
theorem a1_set {o i value : Expr} {pos' pos : Pos} {a b v : AV} {Q : AFl → LM → AHeap → Prop} (hv : PE c A env m H value v) (ho : PE c A env m H o a) (hi : PE c A env m H i b)
    (h : ∀ W s u x y, Ok c W s H → VR W u a → VR W x b → VR W y v → wpAny c.M A (setItem u x y) (fun _ s' => ∃ W' H', Post c W s H W' s' H' ∧ Q .next m H') (fun _ _ => False) s) (hs : swapsWith value (some (.Subscript o i pos')) pos.line env = pure false := by rfl) :
    A1 nf c A env m H (.Assign [.Subscript o i pos'] value pos) Q E := .mk fun W s ok fo =>
  wpN_of <| wpAny_Assign_Subscript (hv.run ok fo fun W1 s1 y p1 f1 r1 => ho.run p1.ok f1 fun W2 s2 u p2 f2 r2 => hi.run p2.ok f2 fun W3 s3 x p3 f3 r3 =>
    wpAny_mono (h W3 s3 u x y p3.ok (r2.mono p3.ext) r3 (r1.mono (p2.ext.trans p3.ext))) (fun _ s4 ⟨W4, H4, p4, q⟩ => ⟨W4, H4, m, .next, (((p1.trans p2).trans p3).trans p4).x _, f3.keep p4, rfl, q⟩) fun _ _ z => z.elim) hs
theorem list_set {vs : List Value} {i : Nat} {v : Value} : vs.toArray.setIfInBounds i v = (vs.set i v).toArray := by simp
theorem All2.set {α β : Type} {R : α → β → Prop} {l : List α} {l' : List β} (h : All2 R l l') {x : α} {y : β} (r : R x y) : ∀ i, All2 R (l.set i x) (l'.set i y) := by
  induction h with
  | nil => intro i; exact .nil
  | cons a b ih =>
    intro i
    cases i with
    | zero => exact .cons r b
    | succ i => exact .cons a (ih i)
theorem OR.list' {ob : Obj} {vs : List Value} {n : Nat} {l : List AV} (hc : ob.cls = .type "list") (hd : ob.data = .seq vs.toArray n) (r : All2 (VR W) vs l) (z : l.length ≤ 1000) : OR c W ob (.list l) := ⟨vs, n, ⟨hc, hd⟩, r, z⟩
theorem a1_set_list {o i value : Expr} {pos' pos : Pos} {d : Addr} {t : Tag} {l : List AV} {k : Int} {v : AV} {Q : AFl → LM → AHeap → Prop} (hv : PE c A env m H value v) (ho : PE c A env m H o (.ref d)) (hi : PE c A env m H i (.int k)) (hd : H d = some (t, .list l)) (h0 : 0 ≤ k) (hk : k.toNat < l.length)
    (q : Q .next m (upd H d (t, .list (l.set k.toNat v)))) (hs : swapsWith value (some (.Subscript o i pos')) pos.line env = pure false := by rfl) : A1 nf c A env m H (.Assign [.Subscript o i pos'] value pos) Q E :=
  a1_set hv ho hi (fun W s u x y ok r1 ⟨tk, r2⟩ r3 => by
    obtain rfl : u = .ref d := r1
    subst r2
    obtain ⟨vs, D, r, z⟩ := ok.isList hd
    have hlen := r.length
    refine wpAny_setItem_list D h0 (by omega) (by simp; omega) fun h' hl' hs' => ?_
    obtain ⟨ob', g', hc, n', hdat⟩ := hl'
    rw [list_set] at hdat
    exact ⟨W, _, ok.upd s.toks hd hs' g' (OR.list' hc hdat (r.set r3 _) (by rw [List.length_set]; exact z)) rfl, q⟩) hs
end
end Nx
end
section
set_option autoImplicit false
namespace Nx

/-! ### heaps never shrink, and the dead stay dead -/
def Ge (s s' : Shared) : Prop := s.heap.objs.size ≤ s'.heap.objs.size ∧ ∀ b, b < s.heap.objs.size → s.heap.get? b = none → s'.heap.get? b = none
theorem Ge.refl (s : Shared) : Ge s s := ⟨Nat.le_refl _, fun _ _ h => h⟩
theorem Ge.trans {a b d : Shared} (x : Ge a b) (y : Ge b d) : Ge a d := ⟨Nat.le_trans x.1 y.1, fun c hc h => y.2 c (Nat.lt_of_lt_of_le hc x.1) (x.2 c hc h)⟩
theorem Ge.heap {s s' : Shared} (h : s'.heap = s.heap) : Ge s s' := by unfold Ge; rw [h]; exact ⟨Nat.le_refl _, fun _ _ h => h⟩
theorem Ge.push {s : Shared} (o : Obj) : Ge s { s with heap := s.heap.push o } := ⟨by show _ ≤ (s.heap.push o).objs.size; rw [Heap.size_push]; exact Nat.le_succ _, fun b hb h => by
  show (s.heap.push o).get? b = none
  unfold Heap.get? Heap.push at *
  rw [Array.getElem?_push, if_neg (Nat.ne_of_lt hb)]
  exact h⟩
theorem Ge.update {s : Shared} {a : Addr} (f : Obj → Obj) (ha : (s.heap.get? a).isSome) : Ge s { s with heap := s.heap.update a f } := ⟨by show _ ≤ (s.heap.update a f).objs.size; rw [Heap.size_after_update]; exact Nat.le_refl _, fun b hb h => by
  have e : a ≠ b := fun e => by rw [e, h] at ha; cases ha
  exact (Heap.get?_update_other _ _ e).trans h⟩
theorem runs_ge {M : Model} {Γ : PySem.Ctx} {p : Pos} {t : Sem Fin} {fs : List Frame} {s s' : Shared} {e : End} (h : Runs M Γ p t fs s e s') : Ge s s' := by
  induction h with
  | done | raise => exact Ge.refl _
  | update ha _ ih => exact (Ge.update _ ha).trans ih
  | alloc _ ih => exact (Ge.push _).trans ih
  | yield => exact Ge.refl _
  | call _ _ i1 i2 => exact i1.trans i2
  | segRet _ _ i1 i2 => exact i1.trans i2
  | resumeFresh _ _ _ _ i1 i2 => exact (Ge.trans (Ge.heap rfl) i1).trans (Ge.trans (Ge.heap rfl) i2)
  | resumeSuspended _ _ _ _ i1 i2 => exact (Ge.trans (Ge.heap rfl) i1).trans (Ge.trans (Ge.heap rfl) i2)
  | segGen _ _ i1 i2 => exact i1.trans (Ge.trans (Ge.heap rfl) i2)
  | segSuspGen _ _ _ _ i1 i2 => exact i1.trans (Ge.trans (Ge.heap rfl) i2)
  | _ => first | assumption | (rename_i ih; exact Ge.trans (Ge.heap rfl) ih)
theorem wakes_ge {M : Model} {Γ : PySem.Ctx} {p : Pos} {g : Nat} {r : Resume} {s s' : Shared} {res : GenResult} (h : Wakes M Γ p g r s res s') : Ge s s' := by
  have go : ∀ {x y : Shared} {Γ' : PySem.Ctx} {p' t fs e}, Runs M Γ' p' t fs x e y → x.heap = s.heap → ∀ {z : Shared}, z.heap = y.heap → Ge s z := fun hr hx z hz =>
    (Ge.heap hx).trans ((runs_ge hr).trans (Ge.heap hz))
  unfold Wakes at h
  split at h
  · exact h.elim
  · split at h
    · obtain ⟨e₁, s₁, hr, _, _, rfl⟩ := h; exact go hr rfl rfl
    · rw [h.2]; exact Ge.refl _
    · rw [h.2]; exact Ge.heap rfl
  · obtain ⟨e₁, s₁, hr, _, _, rfl⟩ := h; exact go hr rfl rfl
  · rw [h.2]; exact Ge.refl _
  · rw [h.2]; exact Ge.refl _
theorem wp_ge {α : Type} (M : Model) (Γ : PySem.Ctx) (s0 : Shared) (t : Sem α) : ∀ (Q : α → Pos → Shared → Prop) (E : Value → Pos → Shared → Prop) (p : Pos) (s : Shared), Ge s0 s → Sem.wp M Γ t Q E p s →
    Sem.wp M Γ t (fun a p' s' => Ge s0 s' ∧ Q a p' s') (fun e p' s' => Ge s0 s' ∧ E e p' s') p s := by
  induction t with
  | pure a => exact fun Q E p s hn h => ⟨hn, h⟩
  | raise e => exact fun Q E p s hn h => ⟨hn, h⟩
  | unsupported _ | finish _ | register _ _ | yield _ _ _ _ | fork _ _ | await _ _ _ _ _ => exact fun Q E p s _ h => h
  | rule _ k ih => exact fun Q E p s hn h => ih () Q E p s hn h
  | «at» p' k ih => exact fun Q E p s hn h => ih () Q E p' s hn h
  | load a _ k ih => exact fun Q E p s hn ⟨o, ho, h⟩ => ⟨o, ho, ih o Q E p s hn h⟩
  | update a _ f k ih => exact fun Q E p s hn h => ⟨h.1, ih () Q E p _ (hn.trans (Ge.update f h.1)) h.2⟩
  | loadIfAlive a k ih => exact fun Q E p s hn h => ih _ Q E p s hn h
  | point _ k ih => exact fun Q E p s hn h => ih () Q E p s hn h
  | alloc o k ih => exact fun Q E p s hn h => ih _ Q E p _ (hn.trans (Ge.push o)) h
  | fresh k ih => exact fun Q E p s hn h => ih _ Q E p _ (hn.trans (Ge.heap rfl)) h
  | ask k ih => exact fun Q E p s hn h => ih _ Q E p s hn h
  | choose src m k ih => exact fun Q E p s hn h => ⟨h.1, ih _ Q E p _ (hn.trans (Ge.heap rfl)) h.2⟩
  | os q l k ih => exact fun Q E p s hn h => ih _ Q E p _ (hn.trans (Ge.heap rfl)) h
  | call c hd g l k ih => exact fun Q E p s hn ⟨r, s₁, h1, h2⟩ => ⟨r, s₁, h1, ih r Q E p s₁ (hn.trans (runs_ge h1)) h2⟩
  | handled own k ih => exact fun Q E p s hn h => ih _ Q E p s hn h
  | genState g k ih => exact fun Q E p s hn ⟨st, hg, h⟩ => ⟨st, hg, ih _ Q E p s hn h⟩
  | newGen c k ih => exact fun Q E p s hn h => ih _ Q E p _ (hn.trans (Ge.heap rfl)) h
  | resume g r l k ih => exact fun Q E p s hn ⟨res, s₁, hw, h⟩ => ⟨res, s₁, hw, ih res Q E p s₁ (hn.trans (wakes_ge hw)) h⟩
  | stack k ih => exact fun Q E p s hn h => ih _ Q E p s hn h
  | thread k ih => exact fun Q E p s hn h => ih _ Q E p s hn h
theorem wpAny_ge {α : Type} {M : Model} {A : Around} {t : Sem α} {Q : α → Shared → Prop} {E : Value → Shared → Prop} {s : Shared} (h : wpAny M A t (fun a s' => Ge s s' → Q a s') (fun e s' => Ge s s' → E e s') s) : wpAny M A t Q E s := fun Γ p hΓ =>
  Sem.wp_mono M Γ t (fun _ _ _ z => z.2 z.1) (fun _ _ _ z => z.2 z.1) p s (wp_ge M Γ s t _ _ p s (Ge.refl s) (h Γ p hΓ))
theorem wpAny_size {α : Type} {M : Model} {A : Around} {t : Sem α} {Q : α → Shared → Prop} {E : Value → Shared → Prop} {s : Shared} (h : wpAny M A t (fun a s' => s.heap.objs.size ≤ s'.heap.objs.size → Q a s') (fun e s' => s.heap.objs.size ≤ s'.heap.objs.size → E e s') s) : wpAny M A t Q E s :=
  wpAny_ge (wpAny_mono h (fun _ _ h g => h g.1) fun _ _ h g => h g.1)
/-- what was not there is new -/
theorem Ge.fresh {s s' : Shared} (g : Ge s s') {a : Addr} {o : Obj} (h : s.heap.get? a = none) (h' : s'.heap.get? a = some o) : s.heap.objs.size ≤ a := by
  rcases Nat.lt_or_ge a s.heap.objs.size with x | x
  · rw [g.2 a x h] at h'; cases h'
  · exact x

section
variable {nf : Bool} {c : Cx} {A : Around} {env : Env} {m : LM} {H : AHeap} {E : AV → LM → AHeap → Prop} {W : WM} {s : Shared}

def drop (H : AHeap) (a : Addr) : AHeap := fun b => if b = a then none else H b
theorem drop_ne {a b : Addr} (h : b ≠ a) : drop H a b = H b := if_neg h
theorem drop_of {a b : Addr} {y : Option (Tag × AObj)} (h : b ≠ a) (e : H b = y) : drop H a b = y := (drop_ne h).trans e
theorem oldK_low0 {base h h' : Heap} (x : OldK base h) (k : ∀ b o, b < base.objs.size → h.get? b = some o → h'.get? b = some o) : OldK base h' := by
  refine ⟨fun b o e => ?_, fun b o e => ?_⟩
  · have hb := Heap.lt_size e
    rcases x.old b o e with y | ⟨t, hc, vs, more, hv, y⟩ | ⟨rfl, hc, ⟨o', es, n, ho', r⟩, z⟩
    · exact .inl (k _ _ hb y)
    · exact .inr (.inl ⟨t, hc, vs, more, hv, k _ _ hb y⟩)
    · exact .inr (.inr ⟨rfl, hc, ⟨o', es, n, k _ _ hb ho', r⟩, fun key => by rw [OldK.staticOf_congr ((k _ _ hb ho').trans ho'.symm) key]; exact z key⟩)
  · obtain ⟨o', ho'⟩ := x.there b o e
    exact ⟨o', k _ _ (Heap.lt_size e) ho'⟩
theorem oldK_low {c : Cx} {h h' : Heap} (x : OldT c h) (k : ∀ b o, b < c.base.objs.size → h.get? b = some o → h'.get? b = some o) : OldT c h' :=
  ⟨oldK_low0 x.k k, fun q hq => let ⟨ps, e, r⟩ := x.t q hq; ⟨ps, k _ _ (Heap.lt_size (c.tabsOk q hq).2.1) e, r⟩⟩
/-- an owned object is let go, and may have turned -/
theorem Ok.lose (ok : Ok c W s H) {a : Addr} {x : Tag × AObj} {h' : Heap} (n : Nat) (ha : H a = some x) (hs : Heap.ExtBut a s.heap h') (hz : s.heap.objs.size ≤ h'.objs.size) : Post c W s H W { s with heap := h', toks := n } (Nx.drop H a) := by
  obtain ⟨t, o⟩ := x
  have hba := (ok.own a t o ha).1
  have low : ∀ b o, b < c.base.objs.size → s.heap.get? b = some o → h'.get? b = some o := fun b o hb e => hs b o (Nat.ne_of_lt (Nat.lt_of_lt_of_le hb hba)) e
  refine ⟨⟨oldK_low ok.old low, ?_, ok.os, ok.bare, Nat.le_trans ok.low hz, fun b u y hy => ?_, ok.gen.sub fun b u gi P hy => ?_, fun b v hv => ?_⟩, Ext.refl W, fun b ob g hH _ _ => ?_, hz, fun b hb => ?_, fun _ h => .inl h⟩
  · obtain ⟨o, e⟩ := c.stat
    rw [e]; exact low _ _ (Heap.lt_size e) (ok.stat.trans e)
  · by_cases e : b = a
    · subst e; simp [Nx.drop] at hy
    · rw [drop_ne e] at hy
      obtain ⟨h1, ob, h2, h3⟩ := ok.own b u y hy
      exact ⟨h1, ob, hs _ _ e h2, h3⟩
  · by_cases e : b = a
    · subst e; simp [Nx.drop] at hy
    · rw [drop_ne e] at hy; exact hy
  · obtain ⟨h1, h2, ob, h3, h4⟩ := ok.frz b v hv
    have e : b ≠ a := fun e => by rw [e, ha] at h2; cases h2
    exact ⟨h1, (drop_ne e).trans h2, ob, hs _ _ e h3, h4⟩
  · have e : b ≠ a := fun e => by rw [e, ha] at hH; cases hH
    exact ⟨ob.slots, hs _ _ e g⟩
  · by_cases e : b = a
    · subst e; simp [Nx.drop] at hb
    · rw [drop_ne e] at hb; exact .inl hb

/-! ### iterators -/
def NextIs (c : Cx) (A : Around) (H : AHeap) (it : Value) (r : Option AV) (H' : AHeap) : Prop :=
  ∀ W s fs, Ok c W s H → A.frames = some fs → FF c W s.heap H fs → wpAny c.M A (pyNext it) (fun o s' => ∃ W', Post c W s H W' s' H' ∧ OV W' o r) (fun _ _ => False) s

abbrev listIt (l : Addr) (i : Nat) : AObj := .rcd (.type "list_iterator") [.ref l, .con (.int i 0)]
theorem Ok.rcd (ok : Ok c W s H) {a : Addr} {t : Tag} {cls : Value} {l : List AV} (h : H a = some (t, .rcd cls l)) : ∃ (o : Obj) (vs : List Value), s.heap.get? a = some o ∧ o.cls = cls ∧ o.data = .fields vs.toArray ∧ All2 (VR W) vs l := by
  obtain ⟨ob, g, vs, hc, r⟩ := ok.get h
  exact ⟨ob, vs, g, hc.1, hc.2, r⟩
theorem OR.rcd' {ob : Obj} {cls : Value} {vs : List Value} {l : List AV} (hc : ob.cls = cls) (hd : ob.data = .fields vs.toArray) (r : All2 (VR W) vs l) : OR c W ob (.rcd cls l) := ⟨vs, ⟨hc, hd⟩, r⟩
theorem Ok.isListIt (ok : Ok c W s H) {a l : Addr} {t : Tag} {i : Nat} (h : H a = some (t, listIt l i)) : s.heap.IsListIter a l i := by
  obtain ⟨o, vs, g, hc, hd, r⟩ := ok.rcd h
  cases r with | cons r1 r => cases r with | cons r2 r => cases r with | nil =>
  obtain rfl : _ = Value.ref l := r1
  obtain rfl : _ = Value.int i 0 := r2
  exact ⟨o, g, hc, hd⟩
theorem next_list_item {it l : Addr} {t t' : Tag} {i : Nat} {items : List AV} {v : AV} (h1 : H it = some (t, listIt l i)) (h2 : H l = some (t', .list items)) (hv : items[i]? = some v) : NextIs c A H (.ref it) (some v) (upd H it (t, listIt l (i + 1))) := fun W s _ ok _ _ => by
  obtain ⟨vs, D, r, z⟩ := ok.isList h2
  obtain ⟨x, hx, rx⟩ := r.get hv
  refine wpAny_pyNext_list_item (ok.isListIt h1) D (x := x) (by simpa using hx) fun h' hit hs => ?_
  obtain ⟨ob, g, hc, hd⟩ := hit
  exact ⟨W, ok.upd s.toks h1 hs g (OR.rcd' (vs := [.ref l, .int ((i + 1 : Nat) : Int) 0]) hc hd (.cons VR.ref' (.cons VR.con' .nil))) rfl, rx⟩
theorem next_list_end (hh : A.handled = none) {it l : Addr} {t t' : Tag} {i : Nat} {items : List AV} (h1 : H it = some (t, listIt l i)) (h2 : H l = some (t', .list items)) (hv : items[i]? = none) : NextIs c A H (.ref it) none (drop H it) := fun W s _ ok _ _ => by
  obtain ⟨vs, D, r, z⟩ := ok.isList h2
  have hl := r.length
  refine wpAny_size (wpAny_pyNext_list_end hh (ok.isListIt h1) D (by simp at hv ⊢; omega) fun h' hs hz => ?_)
  exact ⟨W, ok.lose s.toks h1 hs hz, trivial⟩

/-- what iter() gives of a value -/
def IterOk (nf : Bool) (c : Cx) (A : Around) (H : AHeap) (v : AV) (P : Addr → AHeap → Prop) : Prop :=
  ∀ W s u, Ok c W s H → VR W u v → wpN nf c.M A (pyIter u) (fun o s' => ∃ W' H' it, o = .ref it ∧ Post c W s H W' s' H' ∧ P it H') (fun _ _ => False) s
theorem iter_list {l : Addr} {t' : Tag} (t : Tag) {items : List AV} (h : H l = some (t', .list items)) : IterOk nf c A H (.ref l) (fun it H' => H it = none ∧ H' = upd H it (t, listIt l 0)) := fun W s u ok r => by
  obtain rfl : u = .ref l := r
  obtain ⟨vs, D, r, z⟩ := ok.isList h
  exact wpN_of <| wpAny_pyIter_list D ⟨W, _, _, rfl, ok.alloc s.toks (OR.rcd' (vs := [.ref l, .int 0 0]) rfl rfl (.cons VR.ref' (.cons VR.con' .nil))) rfl rfl, ok.fresh, rfl⟩
abbrev tupIt (l : AV) (i : Nat) : AObj := .rcd (.type "tuple_iterator") [l, .con (.int i 0)]
theorem iter_tup {l : List AV} (t : Tag) : IterOk nf c A H (.tup l) (fun it H' => H it = none ∧ H' = upd H it (t, tupIt (.tup l) 0)) := fun W s u ok ⟨a, h1, h2⟩ => by
  subst h1
  obtain ⟨vs, D, r⟩ := ok.isTup h2
  exact wpN_of <| wpAny_pyIter_tuple D ⟨W, _, _, rfl, ok.alloc s.toks (OR.rcd' (vs := [.ref a, .int 0 0]) rfl rfl (.cons (VR.tup' h2) (.cons VR.con' .nil))) rfl rfl, ok.fresh, rfl⟩
theorem Ok.isTupIt (ok : Ok c W s H) {a : Addr} {l : List AV} {t : Tag} {i : Nat} (h : H a = some (t, tupIt (.tup l) i)) : ∃ ta, W ta = some (.tup l) ∧ s.heap.IsTupleIter a ta i := by
  obtain ⟨o, vs, g, hc, hd, r⟩ := ok.rcd h
  cases r with | cons r1 r => cases r with | cons r2 r => cases r with | nil =>
  obtain ⟨ta, rfl, h2⟩ := r1
  obtain rfl : _ = Value.int i 0 := r2
  exact ⟨ta, h2, o, g, hc, hd⟩
theorem next_tup_item {it : Addr} {t : Tag} {i : Nat} {l : List AV} {v : AV} (h1 : H it = some (t, tupIt (.tup l) i)) (hv : l[i]? = some v) : NextIs c A H (.ref it) (some v) (upd H it (t, tupIt (.tup l) (i + 1))) := fun W s _ ok _ _ => by
  obtain ⟨ta, hW, I⟩ := ok.isTupIt h1
  obtain ⟨vs, D, r⟩ := ok.isTup hW
  obtain ⟨x, hx, rx⟩ := r.get hv
  refine wpAny_pyNext_tuple_item I D (x := x) (by simpa using hx) fun h' hit hs => ?_
  obtain ⟨ob, g, hc, hd⟩ := hit
  exact ⟨W, ok.upd s.toks h1 hs g (OR.rcd' (vs := [.ref ta, .int ((i + 1 : Nat) : Int) 0]) hc hd (.cons (VR.tup' hW) (.cons VR.con' .nil))) rfl, rx⟩
theorem next_tup_end (hh : A.handled = none) {it : Addr} {t : Tag} {i : Nat} {l : List AV} (h1 : H it = some (t, tupIt (.tup l) i)) (hv : l[i]? = none) : NextIs c A H (.ref it) none (drop H it) := fun W s _ ok _ _ => by
  obtain ⟨ta, hW, I⟩ := ok.isTupIt h1
  obtain ⟨vs, D, r⟩ := ok.isTup hW
  have hl := r.length
  refine wpAny_size (wpAny_pyNext_tuple_end hh I D (by simp at hv ⊢; omega) fun h' hs hz => ?_)
  exact ⟨W, ok.lose s.toks h1 hs hz, trivial⟩
abbrev rngIt (x left : Int) : AObj := .raw { cls := .type "range_iterator", dict := none, data := .fields #[rawInt x, rawInt left, rawInt 1], slots := #[] }
theorem iter_rng {r : Addr} {t' : Tag} (t : Tag) {n : Int} (h : H r = some (t', .rng n)) (h0 : 0 ≤ n) (hz : n ≤ 1000) : IterOk nf c A H (.ref r) (fun it H' => H it = none ∧ H' = upd H it (t, rngIt 0 n)) := fun W s u ok q => by
  obtain rfl : u = .ref r := q
  obtain ⟨ob, g, t1, t2, t3, rfl⟩ := ok.get h
  have hr : Builtin.Range.rangeSize 0 n 1 = n := by unfold Builtin.Range.rangeSize; split <;> simp <;> omega
  have hsm : Builtin.Range.small 0 n 1 = true := by
    unfold Builtin.Range.small Builtin.Range.rangeFitsLong
    rw [hr]
    simp
    omega
  refine wpN_of <| wpAny_pyIter_range g hsm ⟨W, _, _, rfl, ok.alloc s.toks (o := rngIt 0 n) ?_ rfl rfl, ok.fresh, rfl⟩
  show _ = _
  rw [hr]
theorem next_rng_item {it : Addr} {t : Tag} {x left : Int} (h1 : H it = some (t, rngIt x left)) (hl : 0 < left) : NextIs c A H (.ref it) (some (.int x)) (upd H it (t, rngIt (x + 1) (left - 1))) := fun W s _ ok _ _ => by
  obtain ⟨ob, g, hob⟩ := ok.get h1
  obtain rfl : ob = _ := hob
  exact wpAny_pyNext_range_item g hl fun h' hit hs => ⟨W, ok.upd (s.toks + 1) h1 hs hit rfl rfl, (show VR W _ (.int x) from VR.int')⟩
theorem next_rng_end (hh : A.handled = none) {it : Addr} {t : Tag} {x left : Int} (h1 : H it = some (t, rngIt x left)) (hl : left ≤ 0) : NextIs c A H (.ref it) none (drop H it) := fun W s _ ok _ _ => by
  obtain ⟨ob, g, hob⟩ := ok.get h1
  obtain rfl : ob = _ := hob
  exact wpAny_size (wpAny_pyNext_range_end hh g hl fun h' hs hz => ⟨W, ok.lose s.toks h1 hs hz, trivial⟩)

/-! ### for -/
/-- a target is assigned -/
def Asg (c : Cx) (A : Around) (env : Env) (m : LM) (H : AHeap) (target : Expr) (it : Value) (v : AV) (K : LM → AHeap → Prop) : Prop :=
  ∀ W s u, Ok c W s H → Fo c W s H env A m → VR W u v → wpAny c.M A (letOwnedTupleGo target it u) (fun _ s₁ => wpAny c.M A (assign target env u) (fun _ s' => ∃ W' H' m', PostX c env.locals W s H W' s' H' ∧ Fo c W' s' H' env A m' ∧ K m' H') (fun _ _ => False) s₁) (fun _ _ => False) s
theorem asg_name {x : Str} {pos : Pos} {it : Value} {v : AV} {K : LM → AHeap → Prop} (h : K (setm m x v) H) (hl : env.kindOf x = some .local := by rfl) (hk : env.scope.kind = .function := by rfl) : Asg c A env m H (.Name x pos) it v K := fun W s u ok fo r =>
  wpAny_pure (wpAny_assign_Name (store ok fo r (fun s' p f => ⟨W, H, _, p, f, h⟩) hl hk))

theorem a1_for {target iter : Expr} {body : List Stmt} {pos : Pos} {v : AV} {P : Addr → AHeap → Prop} {Q : AFl → LM → AHeap → Prop} (hi : AE nf c A env m H iter (fun v m' H' => IterOk nf c A H' v (fun it H'' => ∃ Inv : Nat → LM → AHeap → Prop, (∃ k, Inv k m' H'') ∧
      ∀ k m₁ H₁, Inv k m₁ H₁ → (∃ H₂, NextIs c A H₁ (.ref it) none H₂ ∧ Q .next m₁ H₂) ∨
        ∃ x H₂, NextIs c A H₁ (.ref it) (some x) H₂ ∧ Asg c A env m₁ H₂ target (.ref it) x (fun m₂ H₃ => AS nf c A env m₂ H₃ body (fun fl m₃ H₄ => match fl with
          | .next => ∃ j, j < k ∧ Inv j m₃ H₄
          | .cont => ∃ j, j < k ∧ Inv j m₃ H₄
          | .brk => Q .next m₃ H₄
          | .ret a => Q (.ret a) m₃ H₄) (fun _ _ _ => False)))) E)
    (hs : ∀ x, foldedSetIterable iter env x = pure x := by intro _; rfl) : A1 nf c A env m H (.For target iter body [] pos) Q E := .mk fun W s ok fo => by
  refine wpN_For (AG.run hi.ag ok fo fun W1 s1 m1 H1 u v p1 f1 r1 hit => ?_) hs
  refine wpN_mono (hit W1 s1 u p1.ok r1) (fun o s2 ⟨W2, H2, it, ho, p2, Inv, ⟨k0, h0⟩, turn⟩ => ?_) fun _ _ z => z.elim
  subst ho
  have f2 := f1.keep p2
  have p12 := p1.trans (p2.x _)
  refine codeN_forLoop (I := fun k s' => ∃ W' H' m', PostX c env.locals W s H W' s' H' ∧ Fo c W' s' H' env A m' ∧ Inv k m' H') (fun k s3 ⟨W3, H3, m3, p3, f3, hI⟩ => ?_) k0 ⟨W2, H2, m1, p12, f2, h0⟩
  rcases turn k m3 H3 hI with ⟨H4, hn, hq⟩ | ⟨x, H4, hn, ha⟩
  · refine wpN_mono (wpN_of (hn W3 s3 _ p3.ok f3.ff.choose_spec.1 f3.ff.choose_spec.2)) (fun o s4 ⟨W4, p4, r4⟩ => ?_) fun _ _ z => z.elim
    obtain rfl := r4.none
    exact ⟨W4, H4, m3, .next, p3.trans (p4.x _), f3.keep p4, rfl, hq⟩
  · refine wpN_mono (wpN_of (hn W3 s3 _ p3.ok f3.ff.choose_spec.1 f3.ff.choose_spec.2)) (fun o s4 ⟨W4, p4, r4⟩ => ?_) fun _ _ z => z.elim
    obtain ⟨y, rfl, r⟩ := r4.some
    have f4 := f3.keep p4
    refine wpN_mono (wpN_of (ha W4 s4 y p4.ok f4 r)) (fun _ s5 h5 => ?_) fun _ _ z => z.elim
    refine wpN_mono (wpN_of h5) (fun _ s6 ⟨W6, H6, m6, p6, f6, hb⟩ => ?_) fun _ _ z => z.elim
    have p36 := (p3.trans (p4.x _)).trans p6
    refine wpN_mono (hb.ag W6 s6 p6.ok f6) (fun fl s7 ⟨W7, H7, m7, y, p7, f7, r7, q7⟩ => ?_) fun _ _ ⟨_, _, _, _, _, _, _, z⟩ => z.elim
    cases y with
    | next => obtain rfl : fl = .next := r7; obtain ⟨j, hj, hI'⟩ := q7; exact ⟨j, hj, W7, H7, m7, p36.trans p7, f7, hI'⟩
    | cont => obtain rfl : fl = .cont := r7; obtain ⟨j, hj, hI'⟩ := q7; exact ⟨j, hj, W7, H7, m7, p36.trans p7, f7, hI'⟩
    | brk => obtain rfl : fl = .brk := r7; exact ⟨W7, H7, m7, .next, p36.trans p7, f7, rfl, q7⟩
    | ret a => obtain ⟨v, rfl, r⟩ := r7; exact ⟨W7, H7, m7, .ret a, p36.trans p7, f7, ⟨v, rfl, r⟩, q7⟩
end
end Nx
end
section
set_option autoImplicit false
namespace Nx

/-! ### exceptions: their records, and the traceback's head -/
abbrev xo : Nat := 0
abbrev recC (cls : Value) (vs : List Value) : AObj := .rcd cls (vs.map .con)
def ExcNew (H : AHeap) (e : Addr) (cls cx : Value) : Prop := ∃ t vs, H e = some (t, recC cls vs) ∧ t.own = xo ∧ vs[1]? = some .none ∧ vs[2]? = some cx ∧ 5 ≤ vs.length
def ExcAt (H : AHeap) (e : Addr) (cls cx fl : Value) : Prop := ∃ t vs T t' ts, H e = some (t, recC cls vs) ∧ t.own = xo ∧ vs[1]? = some (.ref T) ∧ vs[2]? = some cx ∧ 5 ≤ vs.length ∧ T ≠ e ∧ H T = some (t', recC (.type "traceback") ts) ∧ t'.own = xo ∧ ts[3]? = some fl
def Keeps (H H' : AHeap) : Prop := ∀ b t o, H b = some (t, o) → t.own ≠ xo → H' b = some (t, o)
theorem Keeps.refl (H : AHeap) : Keeps H H := fun _ _ _ h _ => h
theorem Keeps.trans {H H' H'' : AHeap} (x : Keeps H H') (y : Keeps H' H'') : Keeps H H'' := fun b t o h n => y b t o (x b t o h n) n
theorem Keeps.upd {H : AHeap} {a : Addr} {x : Tag × AObj} (h : ∀ t o, H a = some (t, o) → t.own = xo) : Keeps H (upd H a x) := fun b t o hb n => by
  have e : b ≠ a := fun e => n (h t o (e ▸ hb))
  exact (upd_ne e).trans hb

section
variable {nf : Bool} {c : Cx} {A : Around} {env : Env} {m : LM} {H : AHeap} {E : AV → LM → AHeap → Prop} {W : WM} {s : Shared}

theorem FF.fun {fs : List Env} (x : FF c W s.heap H fs) : s.heap.FunFrames c.base fs := by
  induction fs with
  | nil => trivial
  | cons e r ih =>
    obtain ⟨k, L, o, hf, hB, _, g, d⟩ := x e (.head _)
    exact ⟨k, ⟨L, o, hf, Heap.get?_none_of_le hB, g, d⟩, ih fun e' he => x e' (.tail _ he)⟩
theorem FF.mem {fs : List Env} (x : FF c W s.heap H fs) {b : Addr} (hb : b ∈ fs.filterMap (·.frame)) : c.base.objs.size ≤ b ∧ H b = none ∧ W b = none := by
  obtain ⟨e, he, hf⟩ := List.mem_filterMap.mp hb
  obtain ⟨_, L, o, hf', hB, hH, _, _⟩ := x e he
  obtain rfl : L = b := Option.some.inj (hf'.symm.trans hf)
  exact ⟨hB, hH⟩
theorem Ok.slots (ok : Ok c W s H) {fs : List Env} (ff : FF c W s.heap H fs) {h' : Heap} (hs : Heap.SlotsOnly (fs.filterMap (·.frame)) s.heap h') : Post c W s H W { s with heap := h' } H := by
  have low : ∀ b o, b < c.base.objs.size → s.heap.get? b = some o → h'.get? b = some o := fun b o hb e => (hs.2.1 b fun hm => absurd hb (Nat.not_lt.mpr (ff.mem hm).1)).trans e
  refine ⟨⟨oldK_low ok.old low, ?_, ok.os, ok.bare, by rw [hs.1]; exact ok.low, fun b t o hb => ?_, ok.gen, fun b v hv => ?_⟩, Ext.refl W, fun b ob g _ _ _ => hs.2.2 b ob g, by rw [hs.1]; exact Nat.le_refl _, fun _ h => .inl h, fun _ h => .inl h⟩
  · obtain ⟨o, e⟩ := c.stat
    rw [e]; exact low _ _ (Heap.lt_size e) (ok.stat.trans e)
  · obtain ⟨h1, ob, h2, h3⟩ := ok.own b t o hb
    exact ⟨h1, ob, (hs.2.1 b fun hm => by rw [(ff.mem hm).2.1] at hb; cases hb).trans h2, h3⟩
  · obtain ⟨h1, h2, ob, h3, h4⟩ := ok.frz b v hv
    exact ⟨h1, h2, ob, (hs.2.1 b fun hm => by rw [(ff.mem hm).2.2] at hv; cases hv).trans h3, h4⟩
theorem All2.con {vs : List Value} : All2 (VR W) vs (vs.map .con) := by
  induction vs with
  | nil => exact .nil
  | cons v r ih => exact .cons VR.con' ih
theorem All2.of_con {vs ws : List Value} (h : All2 (VR W) ws (vs.map .con)) : ws = vs := by
  induction vs generalizing ws with
  | nil => cases h; rfl
  | cons v r ih =>
    rw [List.map_cons] at h
    cases h with
    | cons a b =>
      rw [ih b]
      exact congrArg (· :: r) (show _ = _ from a)
theorem Ok.rcdC (ok : Ok c W s H) {a : Addr} {t : Tag} {cls : Value} {vs : List Value} (h : H a = some (t, recC cls vs)) : ∃ o, s.heap.get? a = some o ∧ o.cls = cls ∧ o.data = .fields vs.toArray := by
  obtain ⟨o, ws, g, hc, hd, r⟩ := ok.rcd h
  rw [r.of_con] at hd
  exact ⟨o, g, hc, hd⟩
theorem OR.recC' {ob : Obj} {cls : Value} {vs : List Value} (hc : ob.cls = cls) (hd : ob.data = .fields vs.toArray) : OR c W ob (recC cls vs) := OR.rcd' hc hd All2.con

/-- a field of an owned record is set -/
theorem set_field {a : Addr} {t : Tag} {cls : Value} {vs : List Value} {i : Nat} {x : Value} {Q : Unit → Shared → Prop} {E : Value → Shared → Prop} (ok : Ok c W s H) (ha : H a = some (t, recC cls vs)) (hi : i < vs.length)
    (h : ∀ s', Post c W s H W s' (upd H a (t, recC cls (vs.set i x))) → Q () s') : wpAny c.M A (setField (.ref a) i x) Q E s := by
  obtain ⟨o, g, hc, hd⟩ := ok.rcdC ha
  refine wpAny_setField g hd (by simpa using hi) (h _ ?_)
  have hd' : (o.mapFields (·.setIfInBounds i x)).data = .fields (vs.set i x).toArray := by rw [Obj.data_mapFields hd]; simp
  exact ok.upd s.toks ha (.update ..) (Heap.get?_update_self _ g (Obj.isFreed_of_fields hd')) (OR.recC' ((Obj.cls_mapFields o _).trans hc) hd') rfl
theorem get_field {a : Addr} {t : Tag} {cls : Value} {vs : List Value} {i : Nat} {x : Value} {Q : Value → Shared → Prop} {E : Value → Shared → Prop} (ok : Ok c W s H) (ha : H a = some (t, recC cls vs)) (hi : vs[i]? = some x) (h : Q x s) : wpAny c.M A (field (.ref a) i) Q E s := by
  obtain ⟨o, g, hc, hd⟩ := ok.rcdC ha
  exact wpAny_field g hd (by simpa using hi) h
theorem FF.keep' {fs : List Env} (x : FF c W s.heap H fs) {W' : WM} {s' : Shared} {H' : AHeap} (p : Post c W s H W' s' H') : FF c W' s'.heap H' fs := x.keep p

/-- a new entry at the head of the traceback -/
theorem new_entry {env : Env} {outer : List Env} {L e : Addr} {head : Value} {hadNext : Bool} {t : Tag} {cls cx : Value} {vs : List Value} {Q : Unit → Shared → Prop} {E : Value → Shared → Prop} (ok : Ok c W s H) (hfr : A.frames = some (env :: outer)) (ff : FF c W s.heap H (env :: outer)) (hf : env.frame = some L)
    (he : H e = some (t, recC cls vs)) (ht : t.own = xo) (h2 : vs[2]? = some cx) (hsz : 5 ≤ vs.length)
    (h : ∀ s' H', Post c W s H W s' H' → ExcAt H' e cls cx (rawInt L) → Keeps H H' → Q () s') :
    wpAny c.M A (do let a ← frameOf env; let pl ← entryPlaceOf L hadNext; let b ← EntryCells.newEntry head a .none (rawInt L) .none pl; setField (.ref e) 1 b) Q E s := by
  refine wpAny_bind (wpAny_frameOf_fun hfr ff.fun hf fun h₁ hs₁ => ?_)
  have p1 := ok.slots ff hs₁
  refine wpAny_bind (wpAny_entryPlaceOf fun pl hpl => ?_)
  unfold EntryCells.newEntry newFields
  refine wpAny_bind (wpAny_newObj_type ?_ (hpl.sizeOk5 _ _ _ _ _))
  have p2 := p1.ok.alloc (t := ⟨xo, 0, []⟩) (o := recC (.type "traceback") ([head, .ref L, .none, rawInt L, .none] ++ (if pl.isEmpty then List.replicate 6 Value.none else pl))) (ob := { cls := .type "traceback", dict := none, data := .fields ([head, .ref L, .none, rawInt L, .none] ++ (if pl.isEmpty then List.replicate 6 Value.none else pl)).toArray }) s.toks (OR.recC' rfl rfl) rfl rfl
  have hne : e ≠ h₁.objs.size := Nat.ne_of_lt (p1.ok.lt he)
  have he2 : (upd H h₁.objs.size (⟨xo, 0, []⟩, recC (.type "traceback") ([head, .ref L, .none, rawInt L, .none] ++ (if pl.isEmpty then List.replicate 6 Value.none else pl)))) e = some (t, recC cls vs) := (upd_ne hne).trans he
  refine set_field p2.ok he2 (by omega) fun s3 p3 => h s3 _ (p1.trans (p2.trans p3)) ?_ ?_
  · refine ⟨t, _, h₁.objs.size, ⟨xo, 0, []⟩, _, upd_same, ht, by rw [List.getElem?_set_self (by omega)], by rw [List.getElem?_set_ne (by decide)]; exact h2, by rw [List.length_set]; exact hsz, hne.symm, (upd_ne hne.symm).trans upd_same, rfl, by simp⟩
  · refine (Keeps.upd fun t' o' q => ?_).trans (Keeps.upd fun t' o' q => ?_)
    · have : H h₁.objs.size = none := p1.ok.fresh
      rw [this] at q; cases q
    · rw [he2] at q; cases q; exact ht

theorem note_new {env : Env} {outer : List Env} {L e : Addr} {cls cx : Value} {Q : Unit → Shared → Prop} {E : Value → Shared → Prop} (ok : Ok c W s H) (hfr : A.frames = some (env :: outer)) (ff : FF c W s.heap H (env :: outer)) (hf : env.frame = some L) (he : ExcNew H e cls cx)
    (h : ∀ s' H', Post c W s H W s' H' → ExcAt H' e cls cx (rawInt L) → Keeps H H' → Q () s') : wpAny c.M A (noteFrame (.ref e) env) Q E s := by
  obtain ⟨t, vs, he, ht, h1, h2, h5⟩ := he
  unfold noteFrame
  simp only [hf]
  refine wpAny_bind (get_field ok he h1 ?_)
  rw [if_neg (by decide)]
  exact new_entry ok hfr ff hf he ht h2 h5 h
theorem note_on {env : Env} {outer : List Env} {L e : Addr} {cls cx : Value} {Q : Unit → Shared → Prop} {E : Value → Shared → Prop} (ok : Ok c W s H) (hfr : A.frames = some (env :: outer)) (ff : FF c W s.heap H (env :: outer)) (hf : env.frame = some L) (he : ExcAt H e cls cx .none)
    (h : ∀ s' H', Post c W s H W s' H' → ExcAt H' e cls cx (rawInt L) → Keeps H H' → Q () s') : wpAny c.M A (noteFrame (.ref e) env) Q E s := by
  obtain ⟨t, vs, T, t', ts, he, ht, h1, h2, h5, hne, hT, ht', h3⟩ := he
  unfold noteFrame
  simp only [hf]
  refine wpAny_bind (get_field ok he h1 ?_)
  rw [if_pos (show (Value.ref T != Value.none) = true from by simp)]
  refine wpAny_bind (get_field ok hT h3 ?_)
  rw [if_neg (show ¬ ((Value.none == rawInt L) = true) from by simp [rawInt])]
  refine wpAny_bind (set_field ok hT (List.getElem?_eq_some_iff.mp h3).1 fun s1 p1 => ?_)
  refine new_entry p1.ok hfr (ff.keep p1) hf ((upd_ne hne.symm).trans he) ht h2 h5 fun s2 H2 p2 x2 k2 => h s2 H2 (p1.trans p2) x2 ((Keeps.upd fun _ _ q => ?_).trans k2)
  rw [hT] at q; cases q; exact ht'
theorem note_again {env : Env} {L e : Addr} {cls cx : Value} {Q : Unit → Shared → Prop} {E : Value → Shared → Prop} (ok : Ok c W s H) (hf : env.frame = some L) (he : ExcAt H e cls cx (rawInt L)) (h : Q () s) : wpAny c.M A (noteFrame (.ref e) env) Q E s := by
  obtain ⟨t, vs, T, t', ts, he, ht, h1, h2, h5, hne, hT, ht', h3⟩ := he
  unfold noteFrame
  simp only [hf]
  refine wpAny_bind (get_field ok he h1 ?_)
  rw [if_pos (show (Value.ref T != Value.none) = true from by simp)]
  refine wpAny_bind (get_field ok hT h3 ?_)
  rw [if_pos (show (rawInt L == rawInt L) = true from by simp)]
  exact wpAny_pure h
theorem flight {e : Addr} {cls cx fl : Value} {f : Option Addr} {Q : Unit → Shared → Prop} {E : Value → Shared → Prop} (ok : Ok c W s H) (he : ExcAt H e cls cx fl)
    (h : ∀ s' H', Post c W s H W s' H' → ExcAt H' e cls cx (f.elim .none fun f => rawInt f) → Keeps H H' → Q () s') : wpAny c.M A (setFlight (.ref e) f) Q E s := by
  obtain ⟨t, vs, T, t', ts, he, ht, h1, h2, h5, hne, hT, ht', h3⟩ := he
  have hsz := (List.getElem?_eq_some_iff.mp h3).1
  unfold setFlight
  refine wpAny_bind (get_field ok he h1 ?_)
  rw [if_pos (show (Value.ref T != Value.none) = true from by simp)]
  refine set_field ok hT hsz fun s1 p1 => h s1 _ p1 ⟨t, vs, T, t', _, (upd_ne hne.symm).trans he, ht, h1, h2, h5, hne, upd_same, ht', by rw [List.getElem?_set_self hsz]⟩ (Keeps.upd fun _ _ q => ?_)
  rw [hT] at q; cases q; exact ht'
theorem leave_new {env : Env} {outer : List Env} {L e : Addr} {cls cx : Value} {Q : Unit → Shared → Prop} {E : Value → Shared → Prop} (ok : Ok c W s H) (hfr : A.frames = some (env :: outer)) (ff : FF c W s.heap H (env :: outer)) (hf : env.frame = some L) (he : ExcNew H e cls cx)
    (h : ∀ s' H', Post c W s H W s' H' → ExcAt H' e cls cx .none → Keeps H H' → Q () s') : wpAny c.M A (leaving env (.ref e)) Q E s := by
  unfold leaving
  refine wpAny_bind (note_new ok hfr ff hf he fun s1 H1 p1 x1 k1 => ?_)
  exact flight p1.ok x1 fun s2 H2 p2 x2 k2 => h s2 H2 (p1.trans p2) x2 (k1.trans k2)
theorem leave_at {env : Env} {L e : Addr} {cls cx : Value} {Q : Unit → Shared → Prop} {E : Value → Shared → Prop} (ok : Ok c W s H) (hf : env.frame = some L) (he : ExcAt H e cls cx (rawInt L))
    (h : ∀ s' H', Post c W s H W s' H' → ExcAt H' e cls cx .none → Keeps H H' → Q () s') : wpAny c.M A (leaving env (.ref e)) Q E s := by
  unfold leaving
  refine wpAny_bind (note_again ok hf he ?_)
  exact flight ok he h
theorem exc_new (ok : Ok c W s H) {h' : Heap} {e : Addr} {cls : String} {n : Nat} (x : Heap.NewExc s.heap h' e cls) (g : Ge s { s with heap := h', toks := n }) : ∃ H', Post c W s H W { s with heap := h', toks := n } H' ∧ ExcNew H' e (.type cls) .none ∧ Keeps H H' := by
  obtain ⟨ob, t0, he, hc, hd⟩ := x.there
  have hsz := g.fresh x.new he
  have hH : H e = none := by
    cases q : H e with
    | none => rfl
    | some y => exact absurd (ok.lt q) (Nat.not_lt.mpr hsz)
  have hW : W e = none := by
    cases q : W e with
    | none => rfl
    | some y => obtain ⟨_, _, ob, g, _⟩ := ok.frz _ _ q; rw [x.new] at g; cases g
  have p := ok.grow n x.keeps g.1
  refine ⟨upd H e (⟨xo, 0, []⟩, recC (.type cls) [t0, .none, .none, .none, .bool false, .none]), ⟨p.ok.take hH hW (Nat.le_trans ok.low hsz) he (OR.recC' hc hd) rfl, Ext.refl W, fun b ob g _ _ _ => ⟨ob.slots, x.keeps _ _ g⟩, g.1, fun b hb' => ?_, fun _ h => .inl h⟩, ⟨_, _, upd_same, rfl, rfl, rfl, by simp⟩, Keeps.upd fun _ _ q => by rw [hH] at q; cases q⟩
  by_cases q : b = e
  · exact .inr (q ▸ hsz)
  · rw [upd_ne q] at hb'; exact .inl hb'
/-- an exception on its way -/
def Fly (H : AHeap) (e : Addr) (cls cx : Value) : Prop := ExcNew H e cls cx ∨ ExcAt H e cls cx .none
theorem note_fly {env : Env} {outer : List Env} {L e : Addr} {cls cx : Value} {Q : Unit → Shared → Prop} {E : Value → Shared → Prop} (ok : Ok c W s H) (hfr : A.frames = some (env :: outer)) (ff : FF c W s.heap H (env :: outer)) (hf : env.frame = some L) (he : Fly H e cls cx)
    (h : ∀ s' H', Post c W s H W s' H' → ExcAt H' e cls cx (rawInt L) → Keeps H H' → Q () s') : wpAny c.M A (noteFrame (.ref e) env) Q E s := he.elim (fun x => note_new ok hfr ff hf x h) fun x => note_on ok hfr ff hf x h
theorem leave_fly {env : Env} {outer : List Env} {L e : Addr} {cls cx : Value} {Q : Unit → Shared → Prop} {E : Value → Shared → Prop} (ok : Ok c W s H) (hfr : A.frames = some (env :: outer)) (ff : FF c W s.heap H (env :: outer)) (hf : env.frame = some L) (he : Fly H e cls cx)
    (h : ∀ s' H', Post c W s H W s' H' → ExcAt H' e cls cx .none → Keeps H H' → Q () s') : wpAny c.M A (leaving env (.ref e)) Q E s := by
  unfold leaving
  refine wpAny_bind (note_fly ok hfr ff hf he fun s1 H1 p1 x1 k1 => ?_)
  exact flight p1.ok x1 fun s2 H2 p2 x2 k2 => h s2 H2 (p1.trans p2) x2 (k1.trans k2)
theorem ExcAt.keeps {H' : AHeap} {e : Addr} {cls cx fl : Value} (x : ExcAt H e cls cx fl) (k : ∀ b t o, H b = some (t, o) → H' b = some (t, o)) : ExcAt H' e cls cx fl :=
  let ⟨t, vs, T, t', ts, he, ht, h1, h2, h5, hne, hT, ht', h3⟩ := x; ⟨t, vs, T, t', ts, k _ _ _ he, ht, h1, h2, h5, hne, k _ _ _ hT, ht', h3⟩
theorem leaves_fly {E : AV → AHeap → Prop} {e : Addr} {cls cx : Value} (he : Fly H e cls cx) (h : ∀ H', Keeps H H' → ExcAt H' e cls cx .none → E (.ref e) H') : Leaves c A env E (.ref e) m H := fun W s v ok fo r => by
  obtain rfl : v = .ref e := r
  obtain ⟨outer, h1, h2⟩ := fo.ff
  exact leave_fly ok h1 h2 fo.fr he fun s' H' p x k => ⟨W, H', p.x _, h H' k x⟩
theorem leaves_at {E : AV → AHeap → Prop} {e : Addr} {cls cx : Value} (he : ExcAt H e cls cx (rawInt env.locals)) (h : ∀ H', Keeps H H' → ExcAt H' e cls cx .none → E (.ref e) H') : Leaves c A env E (.ref e) m H := fun W s v ok fo r => by
  obtain rfl : v = .ref e := r
  exact leave_at ok fo.fr he fun s' H' p x k => ⟨W, H', p.x _, h H' k x⟩
end
end Nx
end
section
set_option autoImplicit false
namespace Nx

structure AH (nf : Bool) (c : Cx) (A : Around) (env : Env) (m : LM) (H : AHeap) (e : Addr) (hs : List ExceptHandler) (Q : AFl → LM → AHeap → Prop) (E : AV → LM → AHeap → Prop) : Prop where
  ag : AG RFl nf c A env m H (handleBy (.ref e) env hs) Q E

section
variable {nf : Bool} {c : Cx} {A : Around} {env : Env} {m : LM} {H : AHeap} {E : AV → LM → AHeap → Prop} {W : WM} {s : Shared}

theorem AG.both {α β : Type} {R : WM → α → β → Prop} {t : Sem α} {Q : β → LM → AHeap → Prop} (h : AG R nf c A env m H t Q E) (ok : Ok c W s H) (fo : Fo c W s H env A m) {P : α → Shared → Prop} {P' : Value → Shared → Prop}
    (k : ∀ W' s' m' H' x y, PostX c env.locals W s H W' s' H' → Fo c W' s' H' env A m' → R W' x y → Q y m' H' → P x s')
    (ke : ∀ W' s' m' H' x y, PostX c env.locals W s H W' s' H' → Fo c W' s' H' env A m' → VR W' x y → E y m' H' → P' x s') : wpN nf c.M A t P P' s :=
  wpN_mono (h W s ok fo) (fun x s' ⟨W', H', m', y, p, f, r, q⟩ => k W' s' m' H' x y p f r q) fun x s' ⟨W', H', m', y, p, f, r, q⟩ => ke W' s' m' H' x y p f r q
theorem Fo.mark {h : Option Value} (fo : Fo c W s H env A m) : Fo c W s H env (A.mark h) m := ⟨fo.ns, fo.un, fo.unW, fo.new, fo.ff, fo.fr⟩
theorem Fo.unmark {h : Option Value} (fo : Fo c W s H env (A.mark h) m) : Fo c W s H env A m := ⟨fo.ns, fo.un, fo.unW, fo.new, fo.ff, fo.fr⟩

theorem a1_try {body orelse : List Stmt} {h₀ : ExceptHandler} {hs : List ExceptHandler} {pos : Pos} {Q : AFl → LM → AHeap → Prop}
    (h : AS nf c A env m H body (fun f m' H' => match f with | .next => AS nf c A env m' H' orelse Q E | f => Q f m' H')
      (fun y m' H' => ∃ e cls cx, y = .ref e ∧ Fly H' e cls cx ∧ ∀ H'', Keeps H' H'' → ExcAt H'' e cls cx .none → AH nf c A env m' H'' e (h₀ :: hs) Q E)) : A1 nf c A env m H (.Try body (h₀ :: hs) orelse [] pos) Q E := .mk fun W s ok fo =>
  wpN_Try (AG.both h.ag ok fo (fun W1 s1 m1 H1 x y p1 f1 r1 q1 => by
      cases y with
      | next => obtain rfl : x = .next := r1; exact G.from p1 (q1.ag W1 s1 p1.ok f1)
      | brk => obtain rfl : x = .brk := r1; exact ⟨W1, H1, m1, .brk, p1, f1, rfl, q1⟩
      | cont => obtain rfl : x = .cont := r1; exact ⟨W1, H1, m1, .cont, p1, f1, rfl, q1⟩
      | ret a => obtain ⟨v, rfl, r⟩ := r1; exact ⟨W1, H1, m1, .ret a, p1, f1, ⟨v, rfl, r⟩, q1⟩)
    fun W1 s1 m1 H1 x y p1 f1 r1 ⟨e, cls, cx, hy, hf, k⟩ => by
      subst hy
      obtain rfl : x = .ref e := r1
      obtain ⟨outer, ha, hb⟩ := f1.ff
      refine note_fly p1.ok ha hb f1.fr hf fun s2 H2 p2 x2 k2 => ?_
      refine flight p2.ok x2 fun s3 H3 p3 x3 k3 => ?_
      exact G.from ((p1.trans (p2.x _)).trans (p3.x _)) ((k H3 (k2.trans k3) x3).ag W1 s3 p3.ok ((f1.keep p2).keep p3)))

/-- what is raised in a clause, as it leaves the clause -/
def EH (env : Env) (E : AV → LM → AHeap → Prop) (y : AV) (m : LM) (H : AHeap) : Prop :=
  ∃ x cls cx, y = .ref x ∧ Fly H x cls cx ∧ ∀ H', Keeps H H' → ExcAt H' x cls cx (rawInt env.locals) → E (.ref x) m H'
theorem ExcAt.ne {e : Addr} {cls cx fl : Value} (x : ExcAt H e cls cx fl) : ∃ t vs T, H e = some (t, recC cls vs) ∧ vs[1]? = some (.ref T) := let ⟨t, vs, T, _, _, he, _, h1, _⟩ := x; ⟨t, vs, T, he, h1⟩
theorem came_back {e : Addr} {cls cx fl : Value} {P : Value → Shared → Prop} (ok : Ok c W s H) (fo : Fo c W s H env A m) (he : ExcAt H e cls cx fl)
    (h : ∀ s' H', Post c W s H W s' H' → ExcAt H' e cls cx (rawInt env.locals) → Keeps H H' → P (.ref e) s') : cameBackBy c.M A env P (.ref e) s := by
  obtain ⟨t, vs, T, h1, h2⟩ := he.ne
  unfold cameBackBy
  refine wpAny_bind (get_field ok h1 h2 ?_)
  rw [if_neg (by simp)]
  rw [fo.fr]
  exact flight ok he h
theorem own_error {hm : Option Value} {e : Addr} {cls cx : Value} {P : Value → Shared → Prop} (ok : Ok c W s H) (fo : Fo c W s H env A m) (he : Fly H e cls cx)
    (h : ∀ s' H', Post c W s H W s' H' → ExcAt H' e cls cx (rawInt env.locals) → Keeps H H' → P (.ref e) s') : notedBy c.M (A.mark hm) env (cameBackBy c.M A env P) (.ref e) s := by
  obtain ⟨outer, h1, h2⟩ := fo.ff
  refine note_fly ok h1 h2 fo.fr he fun s1 H1 p1 x1 k1 => ?_
  exact came_back p1.ok (fo.keep p1) x1 fun s2 H2 p2 x2 k2 => h s2 H2 (p1.trans p2) x2 (k1.trans k2)
theorem looks_type {e : Addr} {t : Tag} {cls : Value} {vs : List AV} (ok : Ok c W s H) (he : H e = some (t, .rcd cls vs)) : Looks c.M s.heap (typeOf (.ref e)) cls := by
  obtain ⟨o, ws, g, hc, hd, r⟩ := ok.rcd he
  subst hc
  exact (Looks.ld g).andThen .now
theorem ah_cons {t : Expr} {b₀ : Stmt} {suite : List Stmt} {pos : Pos} {rest : List ExceptHandler} {e : Addr} {cls cx f : Value} {tv : AV} {b : Bool} {Q : AFl → LM → AHeap → Prop}
    (ht : PE c (A.mark (some (.ref e))) env m H t tv) (hf : ∀ W u, VR W u tv → u = f) (hx : ExcAt H e cls cx .none) (hm : exmOne c.K cls f = some b)
    (h : if b = true then ∀ H', Keeps H H' → ExcAt H' e cls cx .none → AS nf c (A.mark (some (.ref e))) env m H' (b₀ :: suite) Q (EH env E) else AH nf c A env m H e rest Q E) :
    AH nf c A env m H e (.ExceptHandler (some t) none (b₀ :: suite) pos :: rest) Q E := .mk fun W s ok fo => by
  refine wpN_handleBy_cons (codeAny_handlers_test ?_) (by intro q; cases q)
  refine ht.run ok fo.mark fun W1 s1 u p1 f1 r1 => ?_
  obtain rfl := hf _ _ r1
  obtain ⟨te, vs, T, t', ts, he, hrest⟩ := id hx
  refine Looks.here (exm_one p1.ok.kin (looks_type p1.ok he) hm) ?_
  cases b with
  | false => exact G.from (p1.x _) ((show AH nf c A env m H e rest Q E from h).ag W1 s1 p1.ok f1.unmark)
  | true =>
    refine codeN_handlers_suite ?_
    refine flight p1.ok hx fun s2 H2 p2 x2 k2 => ?_
    have p12 := p1.trans p2
    refine AG.both (((show ∀ H', Keeps H H' → ExcAt H' e cls cx .none → AS nf c (A.mark (some (.ref e))) env m H' (b₀ :: suite) Q (EH env E) from h) H2 k2 x2).ag) p2.ok (f1.keep p2) (fun W3 s3 m3 H3 x y p3 f3 r3 q3 => ?_) (fun W3 s3 m3 H3 x y p3 f3 r3 q3 => ?_)
    · exact ⟨W3, H3, m3, y, (p12.x _).trans p3, f3.unmark, r3, q3⟩
    · obtain ⟨ea, cls', cx', hy, hf', k⟩ := q3
      subst hy
      obtain rfl : x = .ref ea := r3
      exact own_error p3.ok f3.unmark hf' fun s4 H4 p4 x4 k4 => ⟨W3, H4, m3, .ref ea, ((p12.x _).trans p3).trans (p4.x _), f3.unmark.keep p4, rfl, k H4 k4 x4⟩

/-- the frame's own dict turns -/
theorem frame_turn {h' : Heap} {n : Nat} {mr : Str → Option Value} {m' : LM} (ok : Ok c W s H) (fo : Fo c W s H env A m) (hn : h'.Ns env.locals mr) (hs : Heap.SameBut env.locals s.heap h') (hr : ∀ x, OV W (mr x) (m' x)) :
    PostX c env.locals W s H W { s with heap := h', toks := n } H ∧ Fo c W { s with heap := h', toks := n } H env A m' := by
  refine ⟨?_, ?_⟩
  · refine ⟨⟨ok.old.step_same fo.new hs, (hs.2 _ (c.stat_ne fo.new)).trans ok.stat, ok.os, ok.bare, by rw [hs.1]; exact ok.low, fun b t o e => ?_, ok.gen, fun b a e => ?_⟩, Ext.refl W, fun b ob hb e _ _ _ => ⟨ob.slots, (hs.2 b hb).trans e⟩, by rw [hs.1]; exact Nat.le_refl _, fun _ z => .inl z, fun _ z => .inl z⟩
    · obtain ⟨h1, ob, h2, h3⟩ := ok.own b t o e
      exact ⟨h1, ob, (hs.2 b fun q => by rw [q, fo.un] at e; cases e).trans h2, h3⟩
    · obtain ⟨h1, h2, ob, h3, h4⟩ := ok.frz b a e
      exact ⟨h1, h2, ob, (hs.2 b fun q => by rw [q, fo.unW] at e; cases e).trans h3, h4⟩
  · obtain ⟨outer, h1, h2⟩ := fo.ff
    refine ⟨⟨_, hn, hr⟩, fo.un, fo.unW, fo.new, ⟨outer, h1, fun e he => ?_⟩, fo.fr⟩
    obtain ⟨k, L, o, a, b, d, g, nf⟩ := h2 e he
    by_cases q : L = env.locals
    · subst q
      obtain ⟨o', es, ep, g', hd, _⟩ := hn
      exact ⟨k, _, o', a, b, d, g', fun vs z => by rw [hd] at z; cases z⟩
    · exact ⟨k, L, o, a, b, d, (hs.2 L q).trans g, nf⟩
theorem OV.con' {o : Option Value} : OV W o (o.map .con) := by cases o <;> exact (by first | trivial | exact VR.con')

theorem ah_as {t : Expr} {n : Str} {b₀ : Stmt} {suite : List Stmt} {pos : Pos} {rest : List ExceptHandler} {e : Addr} {cls cx f : Value} {tv : AV} {Q : AFl → LM → AHeap → Prop}
    (ht : PE c (A.mark (some (.ref e))) env m H t tv) (hf : ∀ W u, VR W u tv → u = f) (hx : ExcAt H e cls cx .none) (hm : exmOne c.K cls f = some true)
    (h : ∀ H', Keeps H H' → ExcAt H' e cls cx .none → AS nf c (A.mark (some (.ref e))) env (setm m n (.ref e)) H' (b₀ :: suite) (fun _ _ _ => False)
      (fun y _ H'' => ∃ x cls' cx', y = .ref x ∧ Fly H'' x cls' cx' ∧ ∀ m' H3, Keeps H'' H3 → ExcAt H3 x cls' cx' (rawInt env.locals) → E (.ref x) m' H3))
    (hl : env.kindOf n = some .local := by rfl) (hk : env.scope.kind = .function := by rfl) :
    AH nf c A env m H e (.ExceptHandler (some t) (some n) (b₀ :: suite) pos :: rest) Q E := .mk fun W s ok fo => by
  refine wpN_handleBy_cons (codeAny_handlers_test ?_) (by intro q; cases q)
  refine ht.run ok fo.mark fun W1 s1 u p1 f1 r1 => ?_
  obtain rfl := hf _ _ r1
  obtain ⟨te, vs, T, t', ts, he, hrest⟩ := id hx
  refine Looks.here (exm_one p1.ok.kin (looks_type p1.ok he) hm) ?_
  refine codeN_handlers_suite_as ?_
  refine flight p1.ok hx fun s2 H2 p2 x2 k2 => ?_
  have p12 := p1.trans p2
  refine store p2.ok (f1.keep p2) VR.ref' (fun s2' p2' f2' => ?_) hl hk
  refine AG.both (h H2 k2 x2).ag p2'.ok f2' (fun W3 s3 m3 H3 x y p3 f3 r3 q3 => q3.elim) (fun W3 s3 m3 H3 x y p3 f3 r3 q3 => ?_)
  obtain ⟨ea, cls', cx', hy, hf', k⟩ := q3
  subst hy
  obtain rfl : x = .ref ea := r3
  obtain ⟨outer, ha, hb⟩ := f3.ff
  refine note_fly p3.ok ha hb f3.fr hf' fun s4 H4 p4 x4 k4 => ?_
  have f4 := f3.keep p4
  obtain ⟨mr, hns, hr⟩ := f4.ns
  refine wpAny_nameGoes hl hns (by rw [hk]; rfl) fun h5 m5 hn5 hs5 => ?_
  obtain ⟨p5, f5⟩ := frame_turn (n := s4.toks + 1) (m' := fun x => (m5 x).map .con) p4.ok f4 hn5 hs5 (fun x => OV.con')
  obtain ⟨t6, vs6, T6, h61, h62⟩ := x4.ne
  unfold PySem.passOn
  refine wpAny_bind (get_field p5.ok h61 h62 ?_)
  rw [if_neg (by simp)]
  refine wpAny_bind ?_
  rw [f5.fr]
  refine flight p5.ok x4 fun s6 H6 p6 x6 k6 => ?_
  refine wpAny_throw ?_
  have f6 := f5.keep p6
  have pp := (((((p12.x env.locals).trans p2').trans p3).trans (p4.x _)).trans p5).trans (p6.x _)
  refine note_again p6.ok f6.fr x6 ?_
  refine came_back p6.ok f6.unmark x6 fun s7 H7 p7 x7 k7 => ⟨W3, H7, _, .ref ea, pp.trans (p7.x _), f6.unmark.keep p7, rfl, k _ H7 ((k4.trans k6).trans k7) x7⟩
end
end Nx
end
section
set_option autoImplicit false
namespace Nx

/-- an exception class of the text, over a builtin one, without an __init__ of its own -/
structure ExcC (c : Cx) (C : Addr) : Prop where
  made : ∃ nm q N bs bm hdct sn sub ab col dd k0 k1 k2 k3 k5 B newId initId bmB mN, ExcBaseFacts B newId initId bmB ∧ OwnTail c.base bmB bm ∧ c.base.get? C = some (excClassObj nm q C N bs bm hdct sn sub ab col dd k0 k1 k2 k3 k5 newId) ∧ c.base.Ns N mN ∧ mN "__init__" = none
  exc : subIn c.K (.ref C) (.type "BaseException") = some true
  type : typeIn c.K (.ref C) = some (.type "type")

section
variable {nf : Bool} {c : Cx} {A : Around} {env : Env} {m : LM} {H : AHeap} {E : AV → LM → AHeap → Prop} {W : WM} {s : Shared}

abbrev rec0 (C t : Addr) : AObj := recC (.ref C) [.ref t, .none, .none, .none, .bool false, .none]
theorem Ok.tail (ok : Ok c W s H) {bmB tl : List Value} (T : OwnTail c.base bmB tl) : OwnTail s.heap bmB tl := by
  induction T with
  | base => exact .base
  | own hA hN hni _ ih => exact .own (ok.keepD hA (fun vs q => by cases q)) (ok.ns hN) hni ih
theorem ae_exc {x : Str} {np pos : Pos} {args : List Expr} {C : Addr} {Q : AV → LM → AHeap → Prop} (hx : ExcC c C) (hf : PE c A env m H (.Name x np) (.ref C))
    (ha : AL nf c A env m H pos args (fun vs m' H' => vs.length ≤ 100 ∧ ∀ e t, H' e = none → Q (.ref e) m' (upd H' e (⟨xo, 0, []⟩, rec0 C t))) E) (hp : (backTo pos (starEach args env)).any (·.1) = false := by rfl) :
    AE nf c A env m H (.Call (.Name x np) args [] pos) Q E := .mk fun W s ok fo => by
  obtain ⟨nm, q, N, bs, bm, hdct, sn, sub, ab, col, dd, k0, k1, k2, k3, k5, B, newId, initId, bmB, mN, F, T0, hC, hN, hni⟩ := hx.made
  show wpN _ _ _ (do callWith pos (← eval (.Name x np) env) [] (backTo pos (starEach args env)) (backToKw pos (keywordEach [] env))) _ _ _
  refine wpN_then (hf.run ok fo fun W1 s1 u p1 f1 r1 => ?_)
  obtain rfl : u = .ref C := r1
  refine G.from (p1.x _) ?_
  show wpN _ _ _ (callWith pos (.ref C) [] (backTo pos (starEach args env)) []) _ _ _
  unfold callWith
  refine wpN_bind (wpN_holding (evalArgs_N hp rfl ?_))
  refine AG.run ha.ag p1.ok f1 fun W2 s2 m2 H2 xs vs p2 f2 r2 ⟨hlen, q2⟩ => wpN_pure (wpN_bind (wpN_standAt ?_))
  simp only [hp]
  have hCh := p2.ok.keepD hC (fun vs q => by cases q)
  have hNh := p2.ok.ns hN
  have hlx := r2.length
  have T := p2.ok.tail T0
  obtain ⟨hp2, g2, d2, tk2, os2⟩ := s2
  refine wpN_then (wpAny_keeperOf_exc hCh ?_)
  refine wpN_of <| wpAny_bind (wpAny_ge (wpAny_call_exc_subT (rest := xs) (hrest := by rw [sizeLine_eq]; omega) F T hCh hNh hni fun h' e hm ge => wpAny_bind (wpAny_holding (wpAny_point (wpAny_pure ?_)))))
  obtain ⟨t, ht, _, _⟩ := hm.there
  have ok := p2.ok
  have hsz := ge.fresh hm.new ht
  have hH : H2 e = none := by
    cases q : H2 e with
    | none => rfl
    | some y => exact absurd (ok.lt q) (Nat.not_lt.mpr hsz)
  have hW : W2 e = none := by
    cases q : W2 e with
    | none => rfl
    | some y =>
      obtain ⟨_, _, ob, g, _⟩ := ok.frz _ _ q
      have g' : hp2.get? e = some ob := g
      rw [show hp2.get? e = none from hm.new] at g'; cases g'
  have p := ok.grow tk2 hm.keeps ge.1
  have pp : Post c W2 ⟨hp2, g2, d2, tk2, os2⟩ H2 W2 ⟨h', g2, d2, tk2, os2⟩ (upd H2 e (⟨xo, 0, []⟩, rec0 C t)) := by
    refine ⟨p.ok.take hH hW (Nat.le_trans ok.low hsz) ht (OR.recC' rfl rfl) rfl, Ext.refl W2, fun b ob g _ _ _ => ⟨ob.slots, hm.keeps _ _ g⟩, ge.1, fun b hb' => ?_, fun _ h => .inl h⟩
    by_cases q : b = e
    · exact .inr (q ▸ hsz)
    · rw [upd_ne q] at hb'; exact .inl hb'
  exact ⟨W2, _, m2, .ref e, p2.trans (pp.x _), f2.keep pp, rfl, q2 e t hH⟩

theorem exc_from {e : Addr} {t : Tag} {cls : Value} {l : List AV} {msg : String} {Q : Value → Shared → Prop} {E : Value → Shared → Prop} (ok : Ok c W s H) (he : H e = some (t, .rcd cls l)) (hs : subIn c.K cls (.type "BaseException") = some true) (h : Q (.ref e) s) : wpAny c.M A (excFromValue (.ref e) msg) Q E s := by
  obtain ⟨o, ws, g, hc, hd, r⟩ := ok.rcd he
  subst hc
  have L1 : Looks c.M s.heap (isExcClass (.ref e)) false := by
    unfold isExcClass
    refine Looks.andThen (a := false) ?_ .now
    show Looks c.M s.heap (do return match (← loadPart e _).data with | .cls _ => true | _ => false) false
    refine (Looks.ld g).andThen ?_
    rw [hd]
    exact .now
  have L2 : Looks c.M s.heap (isInstance (.ref e) (.type "BaseException")) true := ((Looks.ld g).andThen .now).andThen (looks_subIn ok.kin hs)
  unfold excFromValue
  refine wpAny_bind (L1.here ?_)
  rw [if_neg Bool.false_ne_true]
  refine wpAny_bind (L2.here ?_)
  rw [if_pos rfl]
  exact wpAny_pure h
theorem is_type {e : Addr} {t : Tag} {cls : Value} {l : List AV} (ok : Ok c W s H) (he : H e = some (t, .rcd cls l)) : Looks c.M s.heap (isType (.ref e)) false := by
  obtain ⟨o, ws, g, hc, hd, r⟩ := ok.rcd he
  show Looks c.M s.heap (do return match (← loadPart e _).data with | .cls _ => true | _ => false) false
  refine (Looks.ld g).andThen ?_
  rw [hd]
  exact .now
theorem raised_inst {e C : Addr} {t : Tag} {l : List AV} {Q : Value → Shared → Prop} {E : Value → Shared → Prop} (ok : Ok c W s H) (he : H e = some (t, .rcd (.ref C) l)) (hs : typeIn c.K (.ref C) = some (.type "type")) (h : Q (.ref e) s) : wpAny c.M A (raisedInstance (.ref e)) Q E s := by
  unfold raisedInstance
  refine wpAny_bind ((looks_type ok he).here ?_)
  refine wpAny_bind ((looks_typeIn ok.kin hs).here ?_)
  rw [if_pos (by rfl)]
  exact wpAny_pure h

theorem entry_unchain : entryFor table "proto.unchain" = some Builtin.«proto.unchain» := entryFor_of_fast (by kernel_rfl)
/-- «raise X(..) from err» in the clause that holds err -/
theorem a1_raise_from {x cx : Expr} {pos : Pos} {C k : Addr} {kcls : Value} {Q : AFl → LM → AHeap → Prop} (hx : ExcC c C) (hh : A.handled = some (.ref k)) (hk : subIn c.K kcls (.type "BaseException") = some true)
    (hv : AE nf c A env m H x (fun v m' H' => ∃ e t0 fl, v = .ref e ∧ H' e = some (⟨xo, 0, []⟩, rec0 C t0) ∧ e ≠ k ∧ ExcAt H' k kcls .none fl ∧ PE c A env m' H' cx (.ref k) ∧
      ∀ H'', Keeps H' H'' → ExcNew H'' e (.ref C) (.ref k) → E (.ref e) m' H'') E) : A1 nf c A env m H (.Raise (some x) (some cx) pos) Q E := .mk fun W s ok fo => by
  show wpN _ _ _ (exec (.Raise (some x) (some cx) pos) env) _ _ _
  rw [arm_exec_Raise]
  refine wpN_bind (wpN_standAt ?_)
  simp only [evalOpt, Option.map]
  unfold raiseStmt
  refine wpN_bind (wpN_bind (AG.run hv.ag ok fo fun W1 s1 m1 H1 u v p1 f1 r1 q1 => ?_))
  obtain ⟨e, t0, fl, rfl, he, hne, hk1, hc, hE⟩ := q1
  obtain rfl : u = .ref e := r1
  refine wpN_bind (wpN_standAt (wpN_pure ?_))
  refine G.from p1 (wpN_of ?_)
  refine wpAny_bind (wpAny_holding (wpAny_bind (hc.run p1.ok f1 fun W2 s2 u p2 f2 r2 => ?_)))
  obtain rfl : u = .ref k := r2
  refine wpAny_bind (wpAny_standAt (wpAny_pure (wpAny_bind (wpAny_pure ?_))))
  refine wpAny_bind (wpAny_holding (exc_from p2.ok he hx.exc ?_))
  obtain ⟨tk, vs, T, t', ts, hk2, htk, hk3, hk4, hk5, hkrest⟩ := id hk1
  dsimp only
  rw [if_neg (by simp)]
  refine wpAny_bind (wpAny_holding (exc_from p2.ok hk2 hk ?_))
  refine wpAny_bind (set_field p2.ok he (by simp) fun s3 p3 => ?_)
  refine wpAny_bind (set_field p3.ok upd_same (by simp) fun s4 p4 => ?_)
  have e4 := (upd_same : upd (upd H1 e (⟨xo, 0, []⟩, recC (.ref C) ([Value.ref t0, .none, .none, .none, .bool false, .none].set 3 (.ref k)))) e (⟨xo, 0, []⟩, recC (.ref C) (([Value.ref t0, .none, .none, .none, .bool false, .none].set 3 (.ref k)).set 4 (.bool true))) e = _)
  refine wpAny_bind ((is_type p4.ok e4).here ?_)
  rw [if_neg Bool.false_ne_true]
  refine wpAny_bind (raised_inst p4.ok e4 hx.type ?_)
  refine wpAny_bind ?_
  unfold setFlight
  refine wpAny_bind (get_field p4.ok e4 (i := 1) rfl ?_)
  rw [if_neg (by decide)]
  refine wpAny_pure ?_
  unfold raiseNew
  refine wpAny_bind (wpAny_handled ?_)
  rw [hh]
  dsimp only
  have hkk : upd (upd H1 e (⟨xo, 0, []⟩, recC (.ref C) ([Value.ref t0, .none, .none, .none, .bool false, .none].set 3 (.ref k)))) e (⟨xo, 0, []⟩, recC (.ref C) (([Value.ref t0, .none, .none, .none, .bool false, .none].set 3 (.ref k)).set 4 (.bool true))) k = some (tk, recC kcls vs) := (upd_ne hne.symm).trans ((upd_ne hne.symm).trans hk2)
  rw [if_pos (by simpa using hne.symm)]
  refine wpAny_bind (wpAny_holding (wpAny_runValue (codeAny_builtin (b := Builtin.«proto.unchain») entry_unchain ?_)))
  show wpAny _ _ (do
    let context ← field (.ref k) 2
    _) _ _ _
  refine wpAny_bind (get_field p4.ok hkk hk4 ?_)
  rw [if_pos (by rfl)]
  refine wpAny_pure ?_
  refine wpAny_bind (set_field p4.ok e4 (i := 2) (x := .ref k) (by simp) fun s5 p5 => ?_)
  refine wpAny_throw ?_
  have pp := ((p2.trans p3).trans p4).trans p5
  refine ⟨W2, _, m1, .ref e, pp.x _, f2.keep ((p3.trans p4).trans p5), rfl, hE _ ?_ ⟨_, _, upd_same, rfl, rfl, rfl, by simp⟩⟩
  refine ((Keeps.upd fun _ _ q => ?_).trans (Keeps.upd fun _ _ q => ?_)).trans (Keeps.upd fun _ _ q => ?_)
  · rw [he] at q; cases q; rfl
  · rw [upd_same] at q; cases q; rfl
  · rw [upd_same] at q; cases q; rfl
end
end Nx
end
section
set_option autoImplicit false
namespace Nx

section
variable {nf : Bool} {c : Cx} {A : Around} {env : Env} {m : LM} {H : AHeap} {E : AV → LM → AHeap → Prop} {W : WM} {s : Shared}

theorem ae_pe {e : Expr} {v : AV} {Q : AV → LM → AHeap → Prop} (h : PE c A env m H e v) (q : Q v m H) : AE nf c A env m H e Q E := .mk (h.pt.use q)

/-! ### f-strings -/
structure PJ (c : Cx) (A : Around) (env : Env) (m : LM) (H : AHeap) (acc : Str) (es : List Expr) (out : Str) : Prop where
  pt : PT VR c A env m H (joinParts acc (evalEach es env)) (.str out)
theorem pj_nil {acc : Str} (h : acc.length ≤ 10000) : PJ c A env m H acc [] acc := .mk fun W s ok fo => joinParts_nil (fin (Post.refl ok) VR.str') (by rw [sizeLine_eq]; omega)
theorem pj_str {acc x out : Str} {k : Nat} {pos : Pos} {rest : List Expr} (hx : (acc ++ x).length ≤ 10000) (h : PJ c A env m H (acc ++ x) rest out) : PJ c A env m H acc (.Constant (.str x) k pos :: rest) out := .mk fun W s ok fo => by
  refine joinParts_cons ((pe_str (x := x)).run ok fo fun W1 s1 u p1 f1 r1 => ?_)
  obtain ⟨t, rfl⟩ := r1
  exact ⟨by rw [sizeLine_eq]; omega, wpAny_mono (h.pt W1 s1 p1.ok f1) (fun _ _ ⟨W2, p2, r2⟩ => ⟨W2, p1.trans p2, r2⟩) fun _ _ z => z⟩
theorem int_text_small {i : Int} (h0 : 0 ≤ i) (h9 : i < 10) : (Str.ofString (toString i)).length ≤ 1 := by
  have : i = 0 ∨ i = 1 ∨ i = 2 ∨ i = 3 ∨ i = 4 ∨ i = 5 ∨ i = 6 ∨ i = 7 ∨ i = 8 ∨ i = 9 := by omega
  rcases this with h | h | h | h | h | h | h | h | h | h <;> (subst h; decide)
theorem pj_int {acc out : Str} {e : Expr} {pos : Pos} {i : Int} {rest : List Expr} (he : PE c A env m H e (.int i)) (h0 : 0 ≤ i) (h9 : i < 10) (hx : acc.length ≤ 9999) (h : PJ c A env m H (acc ++ Str.ofString (toString i)) rest out) : PJ c A env m H acc (.FormattedValue e (-1) none pos :: rest) out := .mk fun W s ok fo => by
  refine joinParts_cons (FormattedValue_plain (he.run ok fo fun W1 s1 u p1 f1 r1 => ?_))
  obtain ⟨t, rfl⟩ := r1
  have hl := int_text_small h0 h9
  refine formatField_int_small (by have : i.natAbs < 2 ^ 4 := by omega
                                   by_cases z : i.natAbs = 0
                                   · rw [z]; decide
                                   · have := (Nat.log2_lt z).mpr this; omega) ?_
  have p2 := Post.toks p1.ok (s1.toks + 1 + 1)
  exact ⟨by rw [strLen_append, sizeLine_eq]; omega, wpAny_mono (h.pt W1 _ p2.ok (f1.keep p2)) (fun _ _ ⟨W2, p3, r2⟩ => ⟨W2, (p1.trans p2).trans p3, r2⟩) fun _ _ z => z⟩
theorem pe_fstr {v₁ v₂ : Expr} {rest : List Expr} {pos : Pos} {out : Str} (h : PJ c A env m H Str.empty (v₁ :: v₂ :: rest) out) : PE c A env m H (.JoinedStr (v₁ :: v₂ :: rest) pos) (.str out) := .mk fun W s ok fo => JoinedStr_many (h.pt W s ok fo)

/-! ### displays -/
theorem wpN_List {n : Bool} {M : Model} {A : Around} {E : Value → Shared → Prop} {s : Shared} {env : Env} {elts : List Expr} {pos : Pos} {Q : Value → Shared → Prop} (h : wpN n M A (spliced (backTo pos (starEach elts env))) (fun vs s₁ => wpAny M A (newList vs) Q E s₁) E s) : wpN n M A (eval (.List elts pos) env) Q E s := by
  show wpN n M A (do standAt pos; newList (← spliced (backTo pos (starEach elts env)))) Q E s
  exact wpN_bind (wpN_standAt (wpN_bind (wpN_mono h (fun vs s₁ h₁ => wpN_of h₁) fun _ _ z => z)))
theorem wpN_Tuple {n : Bool} {M : Model} {A : Around} {E : Value → Shared → Prop} {s : Shared} {env : Env} {elts : List Expr} {k : Nat} {pos : Pos} {Q : Value → Shared → Prop} (h : wpN n M A (spliced (backTo pos (starEach elts env))) (fun vs s₁ => wpAny M A (newTuple vs) Q E s₁) E s) : wpN n M A (eval (.Tuple elts k pos) env) Q E s := by
  show wpN n M A (do standAt pos; newTuple (← spliced (backTo pos (starEach elts env)))) Q E s
  exact wpN_bind (wpN_standAt (wpN_bind (wpN_mono h (fun vs s₁ h₁ => wpN_of h₁) fun _ _ z => z)))

def NoEntries : AObj → Prop
  | .dI l => l = []
  | .dS l => l = []
  | .dP l => l = []
  | _ => False
theorem or_noEntries {o : AObj} (h : NoEntries o) : OR c W { cls := .type "dict", data := .dict #[] } o ∧ o.isGen = false := by
  have e1 : ∀ {K : Type} [DecidableEq K] (knd : KeyKind c.prog c.w K), ({ cls := .type "dict", data := .dict #[] } : Obj).IsDictOf knd [] := fun knd => by
    obtain ⟨o, g, r⟩ := Heap.dictOf_iff.mp (Heap.DictOf.new (knd := knd) c.base)
    rw [Heap.get?_push_size _ rfl] at g
    cases g
    exact r
  cases o with
  | dI l => obtain rfl : l = [] := h; exact ⟨⟨[], e1 _, .nil, by simp⟩, rfl⟩
  | dS l => obtain rfl : l = [] := h; exact ⟨⟨[], e1 _, .nil, by simp⟩, rfl⟩
  | dP l => obtain rfl : l = [] := h; exact ⟨⟨[], #[], 0, ⟨rfl, rfl, rfl⟩, rfl, rfl, .nil, .nil, by simp⟩, rfl⟩
  | _ => exact h.elim
theorem ae_dict0 (t : Tag) {o : AObj} {pos : Pos} {Q : AV → LM → AHeap → Prop} (ho : NoEntries o) (q : ∀ d, H d = none → Q (.ref d) m (upd H d (t, o))) : AE nf c A env m H (.Dict [] [] pos) Q E := .mk fun W s ok fo => by
  have z := or_noEntries (c := c) (W := W) ho
  have p := ok.alloc (t := t) s.toks z.1 rfl z.2
  exact wpN_of <| wpAny_Dict_empty ⟨W, _, m, _, p.x _, fo.keep p, VR.ref', q _ ok.fresh⟩
theorem OR.dS' {ob : Obj} {kvs : List (Str × Value)} {l : List (Str × AV)} (h : ob.IsDictOf (strKind c.prog c.w) kvs) (r : KV W kvs l) (z : l.length ≤ 1000) : OR c W ob (.dS l) := ⟨kvs, h, r, z⟩
theorem OR.dI' {ob : Obj} {kvs : List (Int × Value)} {l : List (Int × AV)} (h : ob.IsDictOf (intKind c.prog c.w) kvs) (r : KV W kvs l) (z : l.length ≤ 1000) : OR c W ob (.dI l) := ⟨kvs, h, r, z⟩
/-- {k: v}, k a string -/
theorem ae_dict1 (t : Tag) {ke ve : Expr} {pos : Pos} {k : Str} {v : AV} {Q : AV → LM → AHeap → Prop} (hk : ∀ d, PE c A env m (upd H d (t, .dS [])) ke (.str k)) (hv : ∀ d, PE c A env m (upd H d (t, .dS [])) ve v) (q : ∀ d, H d = none → Q (.ref d) m (upd H d (t, .dS [(k, v)]))) :
    AE nf c A env m H (.Dict [some ke] [ve] pos) Q E := .mk fun W s ok fo => by
  refine wpN_of <| wpAny_Dict_pairs (knd := strKind c.prog c.w) (pairs := [(eval ke env, do let x ← eval ve env; standAt pos; pure x)]) rfl (by simp) (by simp) ?_
  have z := or_noEntries (c := c) (W := W) (o := .dS []) rfl
  have p := ok.alloc (t := t) (o := .dS []) s.toks z.1 rfl rfl
  have f := fo.keep p
  refine evalPairs_cons ((hk _).run p.ok f fun W1 s1 u p1 f1 r1 => ?_)
  refine wpAny_bind ((hv _).run p1.ok f1 fun W2 s2 y p2 f2 r2 => wpAny_bind (wpAny_standAt (wpAny_pure (evalPairs_nil ?_))))
  obtain ⟨tk, rfl⟩ := r1
  obtain ⟨kvs, D, kv, _⟩ := p2.ok.dS upd_same
  cases kv
  refine ⟨[(k, y)], ⟨strKind_is _ _ _ _, rfl, trivial⟩, D, fun h' D' hs => ?_⟩
  obtain ⟨ob, g, hD⟩ := Heap.dictOf_iff.mp D'
  have p3 := p2.ok.upd (t' := t) (o' := .dS [(k, v)]) (s2.toks + 1) upd_same hs g (OR.dS' hD (.cons ⟨rfl, r2⟩ .nil) (by simp)) rfl
  have e : upd (upd H s.heap.objs.size (t, .dS [])) s.heap.objs.size (t, .dS [(k, v)]) = upd H s.heap.objs.size (t, .dS [(k, v)]) := by funext b; unfold upd; split <;> rfl
  rw [e] at p3
  have pp := ((p.trans p1).trans p2).trans p3
  exact ⟨W2, _, m, .ref _, pp.x _, fo.keep pp, VR.ref', q _ ok.fresh⟩
theorem ae_list (t : Tag) {elts : List Expr} {pos : Pos} {Q : AV → LM → AHeap → Prop} (h : AL nf c A env m H pos elts (fun vs m' H' => vs.length ≤ 1000 ∧ ∀ d, H' d = none → Q (.ref d) m' (upd H' d (t, .list vs))) E) : AE nf c A env m H (.List elts pos) Q E := .mk fun W s ok fo => by
  refine wpN_List (AG.run h.ag ok fo fun W1 s1 m1 H1 xs vs p1 f1 r1 ⟨hz, q⟩ => ?_)
  have hl := r1.length
  have p := p1.ok.alloc (t := t) (o := .list vs) (ob := { cls := .type "list", data := .seq xs.toArray }) s1.toks (OR.list' rfl rfl r1 hz) rfl rfl
  refine wpAny_newObj_type ⟨W1, _, m1, _, p1.trans (p.x _), f1.keep p, VR.ref', q _ p1.ok.fresh⟩ (by show xs.toArray.size ≤ sizeLine; rw [List.size_toArray, sizeLine_eq]; omega)
theorem ae_tuple {elts : List Expr} {k : Nat} {pos : Pos} {Q : AV → LM → AHeap → Prop} (h : AL nf c A env m H pos elts (fun vs m' H' => vs.length ≤ 100 ∧ Q (.tup vs) m' H') E) : AE nf c A env m H (.Tuple elts k pos) Q E := .mk fun W s ok fo => by
  refine wpN_Tuple (AG.run h.ag ok fo fun W1 s1 m1 H1 xs vs p1 f1 r1 ⟨hz, q⟩ => ?_)
  have hl := r1.length
  refine wpAny_newObj_type ?_ (by show xs.toArray.size ≤ sizeLine; rw [List.size_toArray, sizeLine_eq]; omega)
  have p := p1.ok.freeze (v := .tup vs) (ob := { cls := .type "tuple", data := .seq xs.toArray }) (h' := s1.heap.push _) s1.toks (fun _ _ e => Heap.get?_push_of_some _ e) (by rw [Heap.size_push]; exact Nat.le_succ _) (Heap.get?_push_size _ rfl) ⟨xs, 0, rfl, r1⟩
  exact ⟨_, _, m1, _, p1.trans (p.x _), f1.keep p, VR.tup' updW_same, q⟩

/-! ### items set -/
def SetOk (c : Cx) (A : Around) (H : AHeap) (a b v : AV) (K : AHeap → Prop) : Prop :=
  ∀ W s u x y, Ok c W s H → VR W u a → VR W x b → VR W y v → wpAny c.M A (setItem u x y) (fun _ s' => ∃ W' H', Post c W s H W' s' H' ∧ K H') (fun _ _ => False) s
theorem a1_setE {o i value : Expr} {pos' pos : Pos} {Q : AFl → LM → AHeap → Prop} (hv : AE nf c A env m H value (fun v m' H' => ∃ a b, PE c A env m' H' o a ∧ PE c A env m' H' i b ∧ SetOk c A H' a b v (fun H'' => Q .next m' H'')) E) (hs : swapsWith value (some (.Subscript o i pos')) pos.line env = pure false := by rfl) :
    A1 nf c A env m H (.Assign [.Subscript o i pos'] value pos) Q E := .mk fun W s ok fo =>
  wpN_Assign_Subscript (AG.run hv.ag ok fo fun W1 s1 m1 H1 y v p1 f1 r1 ⟨a, b, ho, hi, h⟩ => wpN_of <| ho.run p1.ok f1 fun W2 s2 u p2 f2 r2 => wpN_of <| hi.run p2.ok f2 fun W3 s3 x p3 f3 r3 => wpN_of <|
    wpAny_mono (h W3 s3 u x y p3.ok (r2.mono p3.ext) r3 (r1.mono (p2.ext.trans p3.ext))) (fun _ s4 ⟨W4, H4, p4, q⟩ => ⟨W4, H4, m1, .next, p1.trans (((p2.trans p3).trans p4).x _), f3.keep p4, rfl, q⟩) fun _ _ z => z.elim) hs
theorem SetOk.mono {a b v : AV} {K K' : AHeap → Prop} (h : SetOk c A H a b v K) (k : ∀ H', K H' → K' H') : SetOk c A H a b v K' := fun W s u x y ok r1 r2 r3 => wpAny_mono (h W s u x y ok r1 r2 r3) (fun _ _ ⟨W', H', p, q⟩ => ⟨W', H', p, k _ q⟩) fun _ _ z => z
theorem set_dI {d : Addr} {t : Tag} {l : List (Int × AV)} {k : Int} {v : AV} (hd : H d = some (t, .dI l)) (hz : l.length < 1000) : SetOk c A H (.ref d) (.int k) v (fun H' => H' = upd H d (t, .dI (put l k v))) := fun W s u x y ok r1 ⟨tk, r2⟩ r3 => by
  obtain rfl : u = .ref d := r1
  subst r2
  obtain ⟨kvs, D, kv, _⟩ := ok.dI hd
  have hn : (kvs.map (·.1)).Nodup := let ⟨_, _, _, _, _, _, _, _, hn⟩ := D; hn
  have hl := kv.length
  refine wpAny_setItem_pairs (intKind_is _ _ _ _) D (fun h' D' hs => ?_) (by rw [sizeLine_eq]; omega)
  obtain ⟨ob, g, hD⟩ := Heap.dictOf_iff.mp D'
  exact ⟨W, _, ok.upd (s.toks + 1) hd hs g (OR.dI' hD (kv.stored hn r3) (Nat.le_trans (put_length _ _ _) hz)) rfl, rfl⟩
theorem set_dS {d : Addr} {t : Tag} {l : List (Str × AV)} {k : Str} {v : AV} (hd : H d = some (t, .dS l)) (hz : l.length < 1000) : SetOk c A H (.ref d) (.str k) v (fun H' => H' = upd H d (t, .dS (put l k v))) := fun W s u x y ok r1 ⟨tk, r2⟩ r3 => by
  obtain rfl : u = .ref d := r1
  subst r2
  obtain ⟨kvs, D, kv, _⟩ := ok.dS hd
  have hn : (kvs.map (·.1)).Nodup := let ⟨_, _, _, _, _, _, _, _, hn⟩ := D; hn
  have hl := kv.length
  refine wpAny_setItem_pairs (strKind_is _ _ _ _) D (fun h' D' hs => ?_) (by rw [sizeLine_eq]; omega)
  obtain ⟨ob, g, hD⟩ := Heap.dictOf_iff.mp D'
  exact ⟨W, _, ok.upd (s.toks + 1) hd hs g (OR.dS' hD (kv.stored hn r3) (Nat.le_trans (put_length _ _ _) hz)) rfl, rfl⟩
theorem OR.dP' {h : Heap} {d : Addr} {ob : Obj} {xs : List (List Int × Addr × Value)} {l : List ((Int × Int) × AV)} (D : Heap.DictOfH (tupleKind (intKind c.prog c.w)) h d xs) (g : h.get? d = some ob) (r : PK W xs l) (z : l.length ≤ 1000) : OR c W ob (.dP l) := by
  obtain ⟨o, es, ep, g', h1, h2, h3, h4, h5⟩ := D
  rw [g] at g'; cases g'
  exact ⟨xs, es, ep, h1, h2, h3, h5, r, z⟩
theorem set_dP (hu : A.units + 1 < cLine) {d : Addr} {t : Tag} {l : List ((Int × Int) × AV)} {k : Int × Int} {v : AV} (hd : H d = some (t, .dP l)) (hz : l.length < 1000) : SetOk c A H (.ref d) (.tup [.int k.1, .int k.2]) v (fun H' => H' = upd H d (t, .dP (put l k v))) := fun W s u x y ok r1 ⟨ka, r2, hk⟩ r3 => by
  obtain rfl : u = .ref d := r1
  subst r2
  obtain ⟨xs, D, kv, _⟩ := ok.dP hd
  have hn : (xs.map (·.1)).Nodup := let ⟨_, _, _, _, _, _, _, _, hn⟩ := D; hn
  have hl := kv.length
  refine wpAny_setItem_heap (knd := tupleKind (intKind c.prog c.w)) hu (ok.isPair hk) D (fun h' D' hs => ?_) (by rw [sizeLine_eq]; omega)
  have g' : ∃ ob, h'.get? d = some ob := let ⟨o, _, _, g, _⟩ := D'; ⟨o, g⟩
  obtain ⟨ob, g⟩ := g'
  exact ⟨W, _, ok.upd _ hd hs g (OR.dP' D' g (kv.stored hn hk r3) (Nat.le_trans (put_length _ _ _) hz)) rfl, rfl⟩
end
end Nx
end
section
set_option autoImplicit false
namespace Nx

section
variable {nf : Bool} {c : Cx} {A : Around} {env : Env} {m : LM} {H : AHeap} {E : AV → LM → AHeap → Prop} {W : WM} {s : Shared}

/-! ### methods of builtin types -/
/-- what a call ends in -/
def Ends (c : Cx) (W : WM) (s : Shared) (H : AHeap) (Q E : AV → AHeap → Prop) : Result → Shared → Prop := fun r s' => match r with
  | .ok (.ret v) => ∃ W' H' a, Post c W s H W' s' H' ∧ VR W' v a ∧ Q a H'
  | .ok _ => False
  | .error e => ∃ W' H' a, Post c W s H W' s' H' ∧ VR W' e a ∧ E a H'
theorem CallOk.of {f : Value} {args : List AV} {Q E : AV → AHeap → Prop} (h : ∀ W s vs, Ok c W s H → All2 (VR W) vs args → codeAny c.M A (.call f ⟨vs, []⟩) (Ends c W s H Q E) s) : CallOk nf c A H f args [] Q E := fun W s vs kvs outer ok hA hff hv hk => by
  cases hk
  exact codeN_of (codeAny_mono (h W s vs ok hv) fun r s' z => z)
theorem code_meets {T : String} {name : Str} {id : String} {B : Builtin} {self : Value} {rest : List Value} {S : PySem.Spec} {R : Result → Shared → Prop} (slot : Slot T name id) (hT : s.TypeIs self T) (entry : entryFor table id = some B)
    (args : argsOk id ⟨self :: rest, []⟩) (g : MeetsIn c.prog c.w (B ⟨self :: rest, []⟩) S) (h : S A R s) : codeAny c.M A (.call (.builtin id) ⟨self :: rest, []⟩) R s :=
  codeAny_call_builtin slot.plain entry (slot.check _ _ _ _ _ _ _ _ hT args (g A R s h))

/-- a value of a builtin type without a dict -/
def Plainly (c : Cx) (H : AHeap) (a : AV) (T : String) : Prop := ∀ W s u, Ok c W s H → VR W u a → s.TypeIs u T ∧ ∀ b, u = .ref b → ∃ o, s.heap.get? b = some o ∧ o.dict = none
theorem plainly_dict {K : Type} [DecidableEq K] {knd : KeyKind c.prog c.w K} {h : Heap} {d : Addr} {kvs : List (K × Value)} (D : Heap.DictOf knd h d kvs) : (∃ o, h.get? d = some o ∧ o.cls = .type "dict") ∧ ∀ b, Value.ref d = .ref b → ∃ o, h.get? b = some o ∧ o.dict = none := by
  obtain ⟨o, es, ep, g, hx, _⟩ := D
  exact ⟨⟨o, g, hx.1⟩, fun b e => by cases e; exact ⟨o, g, hx.2.1⟩⟩
theorem plainly_dI {d : Addr} {t : Tag} {l : List (Int × AV)} (hd : H d = some (t, .dI l)) : Plainly c H (.ref d) "dict" := fun W s u ok r => by
  obtain rfl : u = .ref d := r
  obtain ⟨kvs, D, _⟩ := ok.dI hd
  exact plainly_dict D
theorem plainly_dS {d : Addr} {t : Tag} {l : List (Str × AV)} (hd : H d = some (t, .dS l)) : Plainly c H (.ref d) "dict" := fun W s u ok r => by
  obtain rfl : u = .ref d := r
  obtain ⟨kvs, D, _⟩ := ok.dS hd
  exact plainly_dict D
theorem plainly_dP {d : Addr} {t : Tag} {l : List ((Int × Int) × AV)} (hd : H d = some (t, .dP l)) : Plainly c H (.ref d) "dict" := fun W s u ok r => by
  obtain rfl : u = .ref d := r
  obtain ⟨kvs, ⟨o, es, ep, g, hx, _⟩, _⟩ := ok.dP hd
  exact ⟨⟨o, g, hx.1⟩, fun b e => by cases e; exact ⟨o, g, hx.2.1⟩⟩
theorem ae_bmeth {o : Expr} {name : Str} {apos pos : Pos} {args : List Expr} {a : AV} {T id : String} {Q : AV → LM → AHeap → Prop} (slot : Slot T name id) (pa : PlainAttrs T) (ty : typeOf (.builtin id) = pure (.type "method_descriptor")) (ho : PE c A env m H o a) (hp : Plainly c H a T)
    (ha : AL nf c A env m H pos args (fun vs m' H' => CallOk nf c A H' (.builtin id) (a :: vs) [] (fun v H3 => Q v m' H3) (fun e H3 => E e m' H3)) E)
    (hst : (backTo pos (starEach args env)).any (·.1) = false := by rfl)
    (he : ∃ pl, eval (.Call (.Attribute o name apos) args [] pos) env = (do
      let ov ← eval o env
      standAt apos.atName
      let (f, first) ← holding [ov] (getMethod ov name pl)
      callWith pos f first (backTo pos (starEach args env)) (backToKw pos (keywordEach [] env))) := by exact ⟨_, rfl⟩) : AE nf c A env m H (.Call (.Attribute o name apos) args [] pos) Q E := .mk fun W s ok fo => by
  obtain ⟨pl, he⟩ := he
  show wpN _ _ _ (eval _ env) _ _ _
  rw [he]
  refine wpN_then (ho.run ok fo fun W1 s1 u p1 f1 r1 => wpN_bind (wpN_standAt (wpN_bind (wpN_holding (wpN_of ?_)))))
  obtain ⟨hT, hb⟩ := hp W1 s1 u p1.ok r1
  refine getMethod_builtin hT pa slot ty hb ?_
  refine G.from (p1.x _) (callWith_ok (names := []) keep_builtin p1.ok f1 (.cons r1 .nil : All2 (VR W1) [u] [a]) ?_ rfl rfl hst)
  exact .mk (AG.mono ha.ag (fun vs m' H' h3 => (kw_nil (pos := pos)).pt.use ⟨rfl, h3⟩) fun _ _ _ z => z)

/-! dict.get -/
theorem call_get_dI {d : Addr} {t : Tag} {l : List (Int × AV)} {k : Int} {v : AV} {E : AV → AHeap → Prop} (hd : H d = some (t, .dI l)) : CallOk nf c A H (.builtin "dict.get") [.ref d, .int k, v] [] (fun r H' => r = (look l k).getD v ∧ H' = H) E := .of fun W s vs ok hv => by
  cases hv with | cons r1 hv => cases hv with | cons r2 hv => cases hv with | cons r3 hv => cases hv with | nil =>
  rename_i u x y
  obtain rfl : u = .ref d := r1
  obtain ⟨tk, rfl⟩ := r2
  obtain ⟨kvs, D, kv, _⟩ := ok.dI hd
  have z := kv.look k
  refine code_meets F.slot_dict_get D.mapOf.typeIs F.entry_dict_get (F.args_dict_get_3 _ _ _) (meets_dict_get_default (intKind c.prog c.w) d (intKind_is _ _ k tk) (c.noMods (ok.own _ _ _ hd).1) y) ⟨_, D.mapOf, ?_⟩
  refine ⟨W, H, _, Post.toks ok _, ?_, rfl, rfl⟩
  cases q : look l k with
  | none => rw [q] at z; rw [z.none]; exact r3
  | some a => rw [q] at z; obtain ⟨w, h1, h2⟩ := z.some; rw [h1]; exact h2
theorem call_get_dP (hu : A.units + 1 < cLine) {d : Addr} {t : Tag} {l : List ((Int × Int) × AV)} {k : Int × Int} {v : AV} {E : AV → AHeap → Prop} (hd : H d = some (t, .dP l)) : CallOk nf c A H (.builtin "dict.get") [.ref d, .tup [.int k.1, .int k.2], v] [] (fun r H' => r = (look l k).getD v ∧ H' = H) E := .of fun W s vs ok hv => by
  cases hv with | cons r1 hv => cases hv with | cons r2 hv => cases hv with | cons r3 hv => cases hv with | nil =>
  rename_i u x y
  obtain rfl : u = .ref d := r1
  obtain ⟨ka, rfl, hk⟩ := r2
  obtain ⟨xs, D, kv, _⟩ := ok.dP hd
  have z := kv.look k
  refine codeAny_call_builtin F.slot_dict_get.plain F.entry_dict_get (F.slot_dict_get.check _ _ _ _ _ _ _ _ D.typeIs (F.args_dict_get_3 _ _ _) ?_)
  show wpAny _ _ (dictGet d (.ref ka) >>= _) _ _ s
  refine wpAny_bind (wpAny_dictGet_heap (knd := tupleKind (intKind c.prog c.w)) hu (ok.isPair hk) D ?_)
  have e : (atKey xs (pairKey k)).map (·.2) = (atKey xs [k.1, k.2]).map (·.2) := rfl
  rw [e] at z
  cases q : look l k with
  | none =>
    rw [q] at z
    have : atKey xs [k.1, k.2] = none := by simpa using z.none
    rw [this]
    show wpAny _ _ (Builtin.Dict.missed d (.ref ka) >>= _) _ _ _
    exact wpAny_bind (wpAny_missed_other (c.noMods (ok.own _ _ _ hd).1) (wpAny_pure ⟨W, H, _, Post.toks ok _, r3, rfl, rfl⟩))
  | some a =>
    rw [q] at z
    obtain ⟨w, h1, h2⟩ := z.some
    obtain ⟨p, hp1, rfl⟩ := Option.map_eq_some_iff.mp h1
    rw [hp1]
    exact wpAny_pure ⟨W, H, _, Post.toks ok _, h2, rfl, rfl⟩

/-! dict.pop of what isn't there -/
theorem call_pop_none {d : Addr} {t : Tag} {l : List (Str × AV)} {k : Str} {v : AV} {E : AV → AHeap → Prop} (hd : H d = some (t, .dS l)) (hl : look l k = none) : CallOk nf c A H (.builtin "dict.pop") [.ref d, .str k, v] [] (fun r H' => r = v ∧ H' = H) E := .of fun W s vs ok hv => by
  cases hv with | cons r1 hv => cases hv with | cons r2 hv => cases hv with | cons r3 hv => cases hv with | nil =>
  rename_i u x y
  obtain rfl : u = .ref d := r1
  obtain ⟨tk, rfl⟩ := r2
  obtain ⟨kvs, D, kv, _⟩ := ok.dS hd
  have z := kv.look k
  rw [hl] at z
  exact code_meets F.slot_dict_pop D.mapOf.typeIs F.entry_dict_pop (F.args_dict_pop_3 _ _ _) (meets_dict_pop_default (strKind c.prog c.w) d (strKind_is _ _ k tk) (c.noMods (ok.own _ _ _ hd).1) rfl y) ⟨_, D, z.none, W, H, _, Post.toks ok _, r3, rfl, rfl⟩

/-! dict.update, dict.copy -/
def mergeA {κ : Type} [DecidableEq κ] {α : Type} (l more : List (κ × α)) : List (κ × α) := more.foldl (fun acc kv => put acc kv.1 kv.2) l
theorem mergeA_length {κ : Type} [DecidableEq κ] {α : Type} (more l : List (κ × α)) : (mergeA l more).length ≤ l.length + more.length := by
  induction more generalizing l with
  | nil => exact Nat.le_refl _
  | cons p r ih =>
    have := ih (put l p.1 p.2)
    have h2 := put_length l p.1 p.2
    show (mergeA (put l p.1 p.2) r).length ≤ _
    simp only [List.length_cons]
    omega
theorem put_nodup {κ : Type} [DecidableEq κ] {α : Type} {l : List (κ × α)} (k : κ) (a : α) (h : (l.map (·.1)).Nodup) : ((put l k a).map (·.1)).Nodup := by
  by_cases q : look l k = none
  · rw [put_new a q, List.map_append, List.nodup_append]
    refine ⟨h, by simp, fun x hx y hy => ?_⟩
    have hy' : y = k := by simpa using hy
    subst hy'
    intro e
    subst e
    exact look_none.mp q hx
  · rw [put_keys_old a q]; exact h
theorem KV.merged {κ : Type} [DecidableEq κ] {more : List (κ × Value)} {ml : List (κ × AV)} (hm : KV W more ml) : ∀ {kvs : List (κ × Value)} {l : List (κ × AV)}, KV W kvs l → (kvs.map (·.1)).Nodup → KV W (merged kvs more) (mergeA l ml) := by
  unfold KV at hm
  induction hm with
  | nil => exact fun h _ => h
  | @cons p q xs ys r _ ih =>
    intro kvs l h hn
    have s1 := h.stored hn (k := p.1) r.2
    have hn' : ((PySem.stored kvs p.1 p.2).map (·.1)).Nodup := by
      rw [s1.keys]
      exact put_nodup _ _ (h.keys ▸ hn)
    have := ih s1 hn'
    show KV W (PySem.merged (PySem.stored kvs p.1 p.2) xs) (mergeA (put l q.1 q.2) ys)
    rw [← r.1]
    exact this
theorem call_update {d o : Addr} {t t' : Tag} {l more : List (Str × AV)} {E : AV → AHeap → Prop} (hd : H d = some (t, .dS l)) (ho : H o = some (t', .dS more)) (hne : d ≠ o) (hz : (mergeA l more).length ≤ 1000) : CallOk nf c A H (.builtin "dict.update") [.ref d, .ref o] [] (fun r H' => r = .none ∧ H' = upd H d (t, .dS (mergeA l more))) E := .of fun W s vs ok hv => by
  cases hv with | cons r1 hv => cases hv with | cons r2 hv => cases hv with | nil =>
  rename_i u x
  obtain rfl : u = .ref d := r1
  obtain rfl : x = .ref o := r2
  obtain ⟨kvs, D, kv, z1⟩ := ok.dS hd
  obtain ⟨kvs', D', kv', z2⟩ := ok.dS ho
  have hn : (kvs.map (·.1)).Nodup := let ⟨_, _, _, _, _, _, _, _, hn⟩ := D; hn
  have h1 := kv.length
  have h2 := kv'.length
  refine code_meets F.slot_dict_update D.mapOf.typeIs F.entry_dict_update (F.args_dict_update_2 _ _) (meets_dict_update (strKind c.prog c.w) d o hne (c.noMods (ok.own _ _ _ ho).1)) ⟨_, _, D, D', by rw [sizeLine_eq]; omega, fun h' D2 _ hs => ?_⟩
  obtain ⟨ob, g, hD⟩ := Heap.dictOf_iff.mp D2
  exact ⟨W, _, _, ok.upd s.toks hd hs g (OR.dS' hD (kv'.merged kv hn) hz) rfl, VR.none', rfl, rfl⟩
theorem call_copy (t : Tag) {d : Addr} {t' : Tag} {l : List (Str × AV)} {E : AV → AHeap → Prop} (hd : H d = some (t', .dS l)) : CallOk nf c A H (.builtin "dict.copy") [.ref d] [] (fun r H' => ∃ n, H n = none ∧ r = .ref n ∧ H' = upd H n (t, .dS l)) E := .of fun W s vs ok hv => by
  cases hv with | cons r1 hv => cases hv with | nil =>
  rename_i u
  obtain rfl : u = .ref d := r1
  obtain ⟨kvs, D, kv, z1⟩ := ok.dS hd
  have h1 := kv.length
  refine code_meets F.slot_dict_copy D.mapOf.typeIs F.entry_dict_copy (F.args_dict_copy_1 _) (meets_dict_copy (strKind c.prog c.w) d (c.noMods (ok.own _ _ _ hd).1)) ⟨_, D, by rw [sizeLine_eq]; omega, fun h' D2 _ k => ?_⟩
  obtain ⟨ob, g, hD⟩ := Heap.dictOf_iff.mp D2
  have hsz : s.heap.objs.size ≤ h'.objs.size := Nat.le_of_lt (Heap.lt_size g)
  exact ⟨W, _, _, ok.new s.toks k hsz g (OR.dS' hD kv z1) rfl, VR.ref', _, ok.fresh, rfl, rfl⟩
end
end Nx
end
section
set_option autoImplicit false
namespace Nx

section
variable {nf : Bool} {c : Cx} {A : Around} {env : Env} {m : LM} {H : AHeap} {E : AV → LM → AHeap → Prop} {W : WM} {s : Shared}

/-! ### attributes set -/
theorem OR.nS' {ob : Obj} {kvs : List (Str × Value)} {es : Array DictEntry} {ep : Nat} {l : List (Str × AV)} (h : ob.cls = .type "dict" ∧ ob.dict = none ∧ ob.data = .dict es ep) (hk : KeysOf (strKind c.prog c.w) es) (hp : Pairs (strKind c.prog c.w) es.toList kvs)
    (hn : (kvs.map (·.1)).Nodup) (r : KV W kvs l) (z : l.length ≤ 1000) : OR c W ob (.nS l) := ⟨kvs, es, ep, h, hk, hp, hn, r, z⟩
theorem OR.nS_empty : OR c W emptyDict (.nS []) := OR.nS' (kvs := []) ⟨rfl, rfl, rfl⟩ (fun _ h => by simp at h) .nil .nil .nil (by simp)
theorem cls_mapDict' (o : Obj) (f) : (o.mapDict f).cls = o.cls ∧ (o.mapDict f).dict = o.dict := by obtain ⟨_, _, dt, _⟩ := o; cases dt <;> exact ⟨rfl, rfl⟩
theorem cls_mapDictKeys' (o : Obj) (f) : (o.mapDictKeys f).cls = o.cls ∧ (o.mapDictKeys f).dict = o.dict := by obtain ⟨_, _, dt, _⟩ := o; cases dt <;> exact ⟨rfl, rfl⟩
/-- what a name put into a dict by strings makes of its entries -/
theorem nS_put {es : Array DictEntry} {kvs : List (Str × Value)} {name : Str} {tk : Tok} {v : Value} (hk : KeysOf (strKind c.prog c.w) es) (hp : Pairs (strKind c.prog c.w) es.toList kvs) (hn : (kvs.map (·.1)).Nodup) :
    (∀ i, (es.findIdx? fun e => (strKind c.prog c.w).is name e.key) = some i → KeysOf (strKind c.prog c.w) (es.modify i fun e => { e with val := v }) ∧ Pairs (strKind c.prog c.w) (es.modify i fun e => { e with val := v }).toList (PySem.stored kvs name v)) ∧
    ((es.findIdx? fun e => (strKind c.prog c.w).is name e.key) = none → KeysOf (strKind c.prog c.w) (es.push ⟨(strKind c.prog c.w).hash name, .str name tk, v⟩) ∧ Pairs (strKind c.prog c.w) (es.push ⟨(strKind c.prog c.w).hash name, .str name tk, v⟩).toList (PySem.stored kvs name v)) ∧
    ((PySem.stored kvs name v).map (·.1)).Nodup := by
  have hidx : (es.findIdx? fun e => (strKind c.prog c.w).is name e.key) = kvs.findIdx? fun kv => decide (kv.1 = name) := by
    rw [← hp.findIdx name]; obtain ⟨l⟩ := es; simp
  refine ⟨fun i hi => ⟨hk.modify _ _, ?_⟩, fun hi => ⟨hk.push (strKind_is _ _ _ _) _, ?_⟩, ?_⟩
  · rw [PySem.stored, if_pos (any_of_findIdx_some (hidx ▸ hi))]
    have hl : (es.toList.findIdx? fun e => (strKind c.prog c.w).is name e.key) = some i := by rw [← hi]; obtain ⟨l⟩ := es; simp
    have := hp.modify hn hl v
    obtain ⟨l⟩ := es
    simpa using this
  · have hnot : name ∉ kvs.map (·.1) := not_mem_of_findIdx_none (hidx ▸ hi)
    have hany : ¬ (kvs.any fun kv => decide (kv.1 = name)) = true := by
      rw [List.any_eq_true]; rintro ⟨kv, hkv, he⟩
      exact hnot (List.mem_map.mpr ⟨kv, hkv, of_decide_eq_true he⟩)
    rw [PySem.stored, if_neg hany]
    have := hp.append (strKind_is c.prog c.w name tk) ((strKind c.prog c.w).hash name) v
    obtain ⟨l⟩ := es
    simpa using this
  · by_cases h : (kvs.any fun kv => decide (kv.1 = name)) = true
    · rw [PySem.stored, if_pos h, keys_map_store]; exact hn
    · rw [PySem.stored, if_neg h, List.map_append, List.nodup_append]
      refine ⟨hn, by simp, fun a ha b hb => ?_⟩
      simp only [List.map_cons, List.map_nil, List.mem_singleton] at hb
      subst hb
      rintro rfl
      obtain ⟨kv, hkv, rfl⟩ := List.mem_map.mp ha
      exact h (List.any_eq_true.mpr ⟨kv, hkv, by simp⟩)
theorem ns_set {d : Addr} {t : Tag} {l : List (Str × AV)} {name : Str} {v : Value} {a : AV} {Q : Unit → Shared → Prop} {E : Value → Shared → Prop} (ok : Ok c W s H) (hd : H d = some (t, .nS l)) (r : VR W v a) (hz : l.length < 1000)
    (h : ∀ s', Post c W s H W s' (upd H d (t, .nS (put l name a))) → Q () s') : wpAny c.M A (nsSet d name v) Q E s := by
  obtain ⟨ob, g, kvs, es, ep, ⟨h1, h2, h3⟩, hk, hp, hn, kv, _⟩ := ok.get hd
  have hrk : (!es.any (·.key.isStr name) && es.any (·.refKey)) = false := by
    have : es.any (·.refKey) = false := by
      rw [Array.any_eq_false']; intro e he
      obtain ⟨k, t, hkk⟩ := strKeys_of hk e he
      simp [DictEntry.refKey, hkk]
    rw [this, Bool.and_false]
  unfold nsSet
  refine wpAny_bind (wpAny_bind (wpAny_askSetting (wpAny_pure (wpAny_bind (wpAny_mkText (wpAny_bind (wpAny_loadPart g ?_)))))))
  rw [h3]
  dsimp only
  rw [aRefKeyMayBeTheName_at, hrk]
  refine wpAny_updatePart g (h _ ?_)
  obtain ⟨p1, p2, p3⟩ := nS_put (c := c) (tk := s.toks) (v := v) (name := name) hk hp hn
  have eis : (fun e : DictEntry => e.key.isStr name) = fun e => (strKind c.prog c.w).is name e.key := by funext e; exact (isStr_of name e.key).symm
  have kv' := kv.stored hn (k := name) r
  have hz' := Nat.le_trans (put_length l name a) hz
  obtain ⟨oc, od, dt, sl⟩ := ob
  dsimp only at h1 h2 h3
  subst h1 h2 h3
  cases hi : es.findIdx? (·.key.isStr name) with
  | some i =>
    have q := p1 i (by rw [← eis]; exact hi)
    refine ok.upd (s.toks + 1) hd (.update ..) (Heap.get?_update_self _ g (by simp only [Obj.putName_eq, Obj.putNameByArray, hi]; rfl)) ?_ rfl
    simp only [Obj.putName_eq, Obj.putNameByArray, hi]
    exact OR.nS' ⟨rfl, rfl, rfl⟩ q.1 q.2 p3 kv' hz'
  | none =>
    have q := p2 (by rw [← eis]; exact hi)
    refine ok.upd (s.toks + 1) hd (.update ..) (Heap.get?_update_self _ g (by simp only [Obj.putName_eq, Obj.putNameByArray, hi]; rfl)) ?_ rfl
    simp only [Obj.putName_eq, Obj.putNameByArray, hi]
    exact OR.nS' ⟨rfl, rfl, rfl⟩ q.1 q.2 p3 kv' hz'

/-- a class whose instances' attributes are stored as usual -/
structure SetsOk (c : Cx) (C : Addr) : Prop where
  sa : findIn c.K (.ref C) "__setattr__" = some (some (.builtin "object.__setattr__"))
  plain : plainOver c.K C = true
  dict : (clsIn c.K C).any (·.hasDict) = true
theorem a1_setattr {o value : Expr} {name : Str} {pos' pos : Pos} {x C d : Addr} {t t' : Tag} {l : AV → AHeap → List (Str × AV)} {Q : AFl → LM → AHeap → Prop} (hS : SetsOk c C) (ht : takerIn c.K C name = some none)
    (hv : AE nf c A env m H value (fun v m' H' => PE c A env m' H' o (.ref x) ∧ H' x = some (t, .inst C d) ∧ H' d = some (t', .nS (l v H')) ∧ (l v H').length < 1000 ∧ Q .next m' (upd H' d (t', .nS (put (l v H') name v)))) E)
    (hs : swapsWith value (some (.Attribute o name pos')) pos.line env = pure false := by rfl) : A1 nf c A env m H (.Assign [.Attribute o name pos'] value pos) Q E := .mk fun W s ok fo => by
  show wpN _ _ _ (exec (.Assign [.Attribute o name pos'] value pos) env) _ _ _
  rw [plainObj_exec_Assign_Attribute o name pos' value pos hs]
  refine wpN_bind (wpN_standAt (wpN_bind (AG.run hv.ag ok fo fun W1 s1 m1 H1 v av p1 f1 r1 ⟨ho, h1, h2, hz, q⟩ => ?_)))
  refine G.from p1 (wpN_of ?_)
  refine wpAny_bind ?_
  rw [assign_Attribute]
  refine wpAny_bind (wpAny_holding (ho.run p1.ok f1 fun W2 s2 u p2 f2 r2 => ?_))
  obtain rfl : u = .ref x := r2
  refine wpAny_bind (wpAny_standAt (wpAny_bind (wpAny_holding ?_)))
  have p2' := Post.toks p2.ok (s2.toks + 1)
  obtain ⟨od, I, g, L⟩ := p2.ok.inst h1 h2
  obtain ⟨cd, hc, hd'⟩ := any_some hS.dict
  refine set_plain p2.ok.kin I hS.sa (osa_open (s := { s2 with toks := s2.toks + 1 }) p2'.ok.kin I hS.plain ht fun b => ?_)
  refine wpAny_bind (wpAny_pure (wpAny_bind (wpAny_bind (wpAny_loadPart I.at_ (wpAny_bind ((looks_clsIn p2'.ok.kin hc).here ?_))))))
  rw [hd']
  refine wpAny_pure (a := some d) (wpAny_bind (wpAny_pure (wpAny_bind ?_)))
  refine ns_set p2'.ok h2 (r1.mono p2.ext) hz fun s3 p3 => ?_
  obtain ⟨ob3, g3, kvs3, es3, ep3, ⟨e1, e2, e3⟩, hk3, hp3, hn3, kv3, z3⟩ := p3.ok.get upd_same
  have pp := (p2.trans p2').trans p3
  have z : wpAny c.M A (release [v, Value.ref x] []) (fun _ s' => wpAny c.M A (pure Flow.next) (fun x s' => ∃ W' H' m' y, PostX c env.locals W1 s1 H1 W' s' H' ∧ Fo c W' s' H' env A m' ∧ RFl W' x y ∧ Q y m' H') (fun e s' => ∃ W' H' m' y, PostX c env.locals W1 s1 H1 W' s' H' ∧ Fo c W' s' H' env A m' ∧ VR W' e y ∧ E y m' H') s') (fun e s' => ∃ W' H' m' y, PostX c env.locals W1 s1 H1 W' s' H' ∧ Fo c W' s' H' env A m' ∧ VR W' e y ∧ E y m' H') s3 :=
    wpN_any (wpN_release (wpAny_pure ⟨W2, _, m1, .next, pp.x _, f1.keep pp, rfl, q⟩))
  exact wpAny_bind (wpAny_lookBehind (o := ob3) g3 (by rw [e3]; exact pastItsLine_dict (by have := hp3.length; have e : es3.toList.length = es3.size := by simp
                                                                                           have := kv3.length; rw [sizeLine_eq]; omega)) (wpAny_pure z))
end
end Nx
end
section
set_option autoImplicit false
namespace Nx

section
variable {n : Bool} {prog : Program} {w : World} {A : Around} {E : Value → Shared → Prop} {s : Shared} {R : Result → Shared → Prop}
theorem codeN_builtin {id : String} {args : Args} {b : Builtin} (hb : entryFor table id = some b)
    (h : wpN n (model prog w) (A.under (.builtin id args)) (b args) (fun fin s' => match fin with | .done f => R (.ok f) s' | .again c' => c'.quiet = true ∧ NFc c' = true ∧ codeN n (model prog w) A c' R s') (fun e s' => R (.error e) s') s) :
    codeN n (model prog w) A (.builtin id args) R s := by
  refine codeN_of_tree ?_
  show wpN _ _ _ (match entryFor table id with | some b => b args | none => unsupported ((withoutEnding? id "#data").getD id)) _ _ s
  rw [hb]; exact h
/-- a builtin called; its own part is a leaf -/
theorem codeN_call_builtin {id : String} {args : Args} {b : Builtin} (hq : plainId id = true) (hf : NFc (.builtin id args) = true) (hb : entryFor table id = some b)
    (h : wpAny (model prog w) A.in1 (checkBuiltinCall id args) (fun _ s₁ => wpN n (model prog w) A.in1 (b args)
      (fun fin s' => match fin with | .done f => R (.ok f) s' | .again c' => c'.quiet = true ∧ NFc c' = true ∧ codeN n (model prog w) A c' R s') (fun e s' => R (.error e) s') s₁)
      (fun e s' => R (.error e) s') s) : codeN n (model prog w) A (.call (.builtin id) args) R s := by
  refine codeN_of_tree ?_
  show wpN n _ A.in1 (do checkBuiltinCall id args; again (.builtin id args)) _ _ s
  refine wpN_then (wpAny_mono h (fun _ s₁ h₁ => wpN_pure ⟨plainId_quiet hq args, hf, codeN_builtin hb ?_⟩) fun _ _ h' => h')
  rw [Around.under_plainId hq args]
  exact h₁
theorem get_bindN {K : Frag} {x C : Addr} {ox : Obj} {od : Option Obj} {name : Str} {expr : Bool} {g a : Value} {Q : Value → Shared → Prop} (X : K.In s.heap) (I : PySem.W.InstAt s.heap x ox C od) (hga : findIn K (.ref C) "__getattribute__" = some (some (.builtin "object.__getattribute__")))
    (hf : findObj K C od name = some (.bind g a)) (hk : findIn K (.ref C) "__getattr__" = some none)
    (h : wpN n (model prog w) A.in1 (call g [a, .ref x, .ref C]) (fun v s' => handedIn v = true ∧ Q v s') (fun _ _ => False) { s with toks := s.toks + 1 }) :
    wpN n (model prog w) A (getAttr (.ref x) name expr) Q E s := by
  obtain ⟨hh, gg, d, t, os⟩ := s
  have L0 := I.type (M := model prog w)
  have L1 := looks_findIn (M := model prog w) X hga
  have L2 := looks_find (M := model prog w) X I hf
  have L3 := looks_findIn (M := model prog w) X hk
  unfold getAttr getAttrBy
  refine wpN_then (wpAny_mkText (wpN_holding (wpN_then (L0.at (wpN_then (L1.at ?_))))))
  show wpN _ _ _ (getAttrEveryday _ _ _) _ _ _
  unfold getAttrEveryday
  refine wpN_bind (wpN_onRaise (wpN_runValue (codeN_builtin F.plainObj_entry_getattr_hooked ?_) rfl))
  refine wpN_then (wpAny_pure (wpN_then (L0.at (wpN_then (L2.at (wpN_then (L3.at ?_)))))))
  show wpN n _ _ (holding [a] (call g [a, .ref x, .ref C]) >>= ret) _ _ _
  refine wpN_bind (wpN_holding (wpN_mono h (fun v s' z => wpN_pure ?_) fun _ _ z => z.elim))
  show wpN _ _ _ (handedOut v) _ _ _
  rw [handedOut_of z.1]
  exact wpN_pure z.2
end

section
variable {nf : Bool} {c : Cx} {A : Around} {env : Env} {m : LM} {H : AHeap} {E : AV → LM → AHeap → Prop} {W : WM} {s : Shared}

/-! ### a class of the text, called -/
theorem call_class {C fI : Addr} {args : List AV} {kw : List (Str × AV)} {Q E : AV → AHeap → Prop} (t1 t2 : Tag) (hm : makesIn c.K C = true) (hi : findIn c.K (.ref C) "__init__" = some (some (.ref fI))) (hf : typeIn c.K (.ref fI) = some (.type "function"))
    (h : ∀ A' x dx, A'.frames = A.frames → A'.handled = A.handled → A'.depth = A.depth + 1 → A'.units = A.units + 1 → H x = none → H dx = none → x ≠ dx →
      CallOk false c A' (upd (upd H dx (t1, .nS [])) x (t2, .inst C dx)) (.ref fI) (.ref x :: args) kw (fun r H' => r = .none ∧ Q (.ref x) H') E) : CallOk nf c A H (.ref C) args kw Q E := by
  intro W s vs kvs outer ok hA hff hv hk
  have X := ok.kin
  have p1 := ok.alloc (t := t1) (o := .nS []) (ob := emptyDict) s.toks OR.nS_empty rfl rfl
  have p2 := p1.ok.alloc (t := t2) (o := .inst C s.heap.objs.size) (ob := instObj C s.heap.objs.size) s.toks rfl rfl rfl
  have hs : (s.heap.push emptyDict).objs.size = s.heap.objs.size + 1 := Heap.size_push _ _
  have hx0 : H (s.heap.objs.size + 1) = none := by
    cases q : H (s.heap.objs.size + 1) with
    | none => rfl
    | some y => exact absurd (ok.lt q) (Nat.not_lt.mpr (Nat.le_succ _))
  rw [show ({ s with heap := s.heap.push emptyDict, toks := s.toks } : Shared).heap.objs.size = s.heap.objs.size + 1 from hs] at p2
  have pp := p1.trans p2
  have z := h (A.under (.builtin "type.__call__" ⟨.ref C :: vs, kvs⟩)) (s.heap.objs.size + 1) s.heap.objs.size rfl rfl rfl rfl hx0 ok.fresh (Nat.succ_ne_self _)
    W _ (.ref (s.heap.objs.size + 1) :: vs) kvs outer pp.ok (by show (A.under _).frames = _; exact hA) (hff.keep pp) (.cons VR.ref' hv) hk
  obtain ⟨hh, g, d, t, os⟩ := s
  refine codeN_of (make_core (makes_of X hm) (looks_findIn X hi) (fun self => bind_fn X self hf) (.inl rfl) ?_)
  refine codeAny_mono (codeN_any z) fun r s' hr => ?_
  rcases r with e | (_ | _ | _ | v)
  · obtain ⟨W', H', a, p, r, q⟩ := hr; exact ⟨W', H', a, pp.trans p, r, q⟩
  · exact hr
  · exact hr
  · exact hr
  · obtain ⟨W', H', a, p, r, rfl, q⟩ := hr
    exact ⟨r, W', H', .ref _, pp.trans p, VR.ref', q⟩

/-! ### a slot -/
structure SlotIs (c : Cx) (C : Addr) (name : Str) (p : Addr) : Prop where
  cls : (clsIn c.K C).isSome = true
  ga : findIn c.K (.ref C) "__getattribute__" = some (some (.builtin "object.__getattribute__"))
  sa : findIn c.K (.ref C) "__setattr__" = some (some (.builtin "object.__setattr__"))
  gk : findIn c.K (.ref C) "__getattr__" = some none
  plain : plainOver c.K C = true
  find : findIn c.K (.ref C) name = some (some (.ref p))
  get : specialIn c.K (.ref p) "__get__" = some (some (.builtin "member_descriptor.__get__"))
  takes : takesIn c.K (.ref p) = some true
  type : typeIn c.K (.ref p) = some (.type "member_descriptor")
  slot : slotIn c.K p C = some 0
theorem SlotIs.taker {C : Addr} {name : Str} {p : Addr} (h : SlotIs c C name p) : takerIn c.K C name = some (some (.ref p)) := by
  unfold takerIn
  rw [h.find, Option.bind_some]
  dsimp only
  rw [h.takes]; rfl
theorem SlotIs.obj {C : Addr} {name : Str} {p : Addr} (h : SlotIs c C name p) (od : Option Obj) : findObj c.K C od name = some (.bind (.builtin "member_descriptor.__get__") (.ref p)) := by
  obtain ⟨cd, hc⟩ := Option.isSome_iff_exists.mp h.cls
  unfold findObj
  rw [hc, Option.bind_some, h.find, Option.bind_some]
  dsimp only
  rw [h.get, Option.bind_some]
  dsimp only
  rw [h.takes]
  rfl
theorem Ok.slotI (ok : Ok c W s H) {x C d : Addr} {t t' : Tag} {v : AV} {mm : List (Str × AV)} (h1 : H x = some (t, .slot1 C d v)) (h2 : H d = some (t', .nS mm)) :
    ∃ v' od, PySem.W.InstAt s.heap x { cls := .ref C, dict := some d, data := .plain, slots := #[some v'] } C (some od) ∧ VR W v' v := by
  obtain ⟨ob, g, v', rfl, r⟩ := ok.get h1
  obtain ⟨od, g', _⟩ := ok.get h2
  exact ⟨v', od, ⟨g, rfl, rfl, g'⟩, r⟩
theorem pe_slot {o : Expr} {name : Str} {pos : Pos} {x C d p : Addr} {t t' : Tag} {v : AV} {mm : List (Str × AV)} (ho : PE c A env m H o (.ref x)) (h1 : H x = some (t, .slot1 C d v)) (h2 : H d = some (t', .nS mm)) (hS : SlotIs c C name p)
    (hh : v.plain = true := by rfl) (he : eval (.Attribute o name pos) env = (do let ov ← eval o env; standAt pos.atName; let r ← holding [ov] (getAttr ov name true); letTemporaryGo o ov r; pure r) := by rfl) : PE c A env m H (.Attribute o name pos) v := .mk fun W s ok fo =>
  Attribute_any_ (ho.run ok fo fun W1 s1 u p1 f1 r1 => by
    obtain rfl : u = .ref x := r1
    obtain ⟨v', od, I, rv⟩ := p1.ok.slotI h1 h2
    refine get_bind p1.ok.kin I hS.ga (hS.obj _) hS.gk (wpAny_call (slot_get (v := v') (i := 0) (s := { s1 with toks := s1.toks + 1 }) p1.ok.kin I hS.slot rfl ?_))
    show wpAny _ _ (handedOut v') _ _ _
    rw [handedOut_of (rv.handed hh)]
    exact wpAny_pure (fin p1 rv)) he
/-- the descriptor's store -/
theorem slot_put {name : Str} {x C d p : Addr} {t : Tag} {u : Value} {v : AV} {R : Result → Shared → Prop} (ok : Ok c W s H) (h1 : H x = some (t, .inst C d)) (hS : SlotIs c C name p) {od : Option Obj} (I : PySem.W.InstAt s.heap x (instObj C d) C od) (r : VR W u v)
    (h : ∀ s', Post c W s H W s' (upd H x (t, .slot1 C d v)) → R (.ok (.ret .none)) s') : codeAny c.M A (.call (.builtin "member_descriptor.__set__") ⟨[.ref p, .ref x, u], []⟩) R s := by
  obtain ⟨nm, tn, owner, behind, tb, dd, sl, cd, ho, hc, hm, hb, hi⟩ := slot_of ok.kin hS.slot
  have P : ∀ h', Heap.SameBut x s.heap h' ∧ h'.get? x = some { cls := .ref C, dict := some d, data := .plain, slots := #[some u] } → R (.ok (.ret .none)) { s with heap := h' } := fun h' hb' => h { s with heap := h' } (ok.upd (ob' := { cls := .ref C, dict := some d, data := .plain, slots := #[some u] }) (t' := t) (o' := .slot1 C d v) (h' := h') s.toks h1 hb'.1 hb'.2 ⟨u, rfl, r⟩ rfl)
  have X := ok.kin
  obtain ⟨hh, g, dr, tk, os⟩ := s
  have L0 := I.type (M := c.M)
  have L1 := looks_mroIn (M := c.M) X hm
  have L2 : Looks c.M hh (Builtin.Slots.slotNamesOf (.ref C)) cd.slotNames := (looks_clsIn X hc).andThen .now
  have hx := I.at_
  dsimp only at ho hx L0 L1
  have f0 := looks_field (M := c.M) ho 0 (v := .str nm tn) rfl
  have f1 := looks_field (M := c.M) ho 1 (v := owner) rfl
  have f3 := looks_field (M := c.M) ho 3 (v := .builtin "proto.slot#set") rfl
  have f4 := looks_field (M := c.M) ho 4 (v := .int behind tb) rfl
  refine codeAny_call_builtin KF.slot_mset.plain KF.entry_mset (KF.slot_mset.check _ _ _ _ _ _ _ _ ⟨_, ho, rfl⟩ (KF.args_mset _ _ _) ?_)
  unfold Builtin.«member_descriptor.__set__» Builtin.Getset_descriptor.descrSet Builtin.Getset_descriptor.descrStoreThrough Builtin.Getset_descriptor.descrCheckInstance Builtin.Getset_descriptor.descrNameAndClass isInstance
  have f5 : Looks c.M hh (Builtin.Getset_descriptor.descrItself (.ref p)) [.ref p] := ((Looks.ld (part := none) ho).andThen .now).andThen (Looks.of_pure (by kernel_rfl))
  repeat lk
  refine ⟨Code.quiet_builtin _ (by decide +kernel), codeAny_builtin KF.entry_slotset ?_⟩
  unfold Builtin.«proto.slot#set» Builtin.Slots.target
  repeat lk
  rw [if_neg hb]
  refine wpAny_pure (wpAny_bind ?_)
  unfold setSlotAt
  dsimp only
  rw [if_neg (by rw [← hi, sizeLine_eq]; decide), ← hi]
  exact wpAny_updatePart hx (wpAny_pure (P _ ⟨.update .., Heap.get?_update_self _ hx rfl⟩))
end
end Nx
end
section
set_option autoImplicit false
namespace Nx
section
variable {nf : Bool} {c : Cx} {A : Around} {env : Env} {m : LM} {H : AHeap} {E : AV → LM → AHeap → Prop} {W : WM} {s : Shared}

theorem a1_setslot {o value : Expr} {name : Str} {pos' pos : Pos} {x C d p : Addr} {t t' : Tag} {mm : List (Str × AV)} {Q : AFl → LM → AHeap → Prop} {v : AV} (hS : SlotIs c C name p)
    (hv : PE c A env m H value v) (ho : PE c A env m H o (.ref x)) (h1 : H x = some (t, .inst C d)) (h2 : H d = some (t', .nS mm)) (q : Q .next m (upd H x (t, .slot1 C d v)))
    (hs : swapsWith value (some (.Attribute o name pos')) pos.line env = pure false := by rfl) : A1 nf c A env m H (.Assign [.Attribute o name pos'] value pos) Q E := .mk fun W s ok fo => by
  refine wpN_of (plainObj_wpAny_Assign_Attribute (hv.run ok fo fun W1 s1 y p1 f1 r1 => ho.run p1.ok f1 fun W2 s2 u p2 f2 r2 => ?_) hs)
  obtain rfl : u = .ref x := r2
  obtain ⟨od, I, g, L⟩ := p2.ok.inst h1 h2
  have p2' := Post.toks p2.ok (s2.toks + 1)
  refine set_plain p2.ok.kin I hS.sa (osa_descr (s := { s2 with toks := s2.toks + 1 }) KF.slot_mset p2'.ok.kin I hS.plain hS.taker hS.type ?_)
  refine slot_put p2'.ok h1 hS I (r1.mono p2.ext) fun s3 p3 => ?_
  have pp := ((p1.trans p2).trans p2').trans p3
  exact ⟨W2, _, m, .next, pp.x _, fo.keep pp, rfl, q⟩

/-! ### subscripts and tests by methods of the text -/
/-- a subscript with effect -/
theorem ae_sub {value slice : Expr} {pos : Pos} {Q : AV → LM → AHeap → Prop} (hv : AE nf c A env m H value (fun a m' H' => ∃ i, PE c A env m' H' slice i ∧
      ∀ W s u x, Ok c W s H' → Fo c W s H' env A m' → VR W u a → VR W x i → G nf c A env VR Q E W s H' (subscriptTail value slice u x)) E) : AE nf c A env m H (.Subscript value slice pos) Q E := .mk fun W s ok fo => by
  show wpN _ _ _ (eval (.Subscript value slice pos) env) _ _ _
  rw [eval_Subscript]
  refine wpN_bind (AG.run hv.ag ok fo fun W1 s1 m1 H1 u a p1 f1 r1 ⟨i, hi, h⟩ => ?_)
  refine wpN_bind (wpN_holding (wpN_of (hi.run p1.ok f1 fun W2 s2 x p2 f2 r2 => ?_)))
  exact wpN_bind (wpN_standAt (G.from (p1.trans (p2.x _)) (h W2 s2 u x p2.ok f2 (r1.mono p2.ext) r2)))
theorem special_fnN {n : Bool} {M : Model} {E : Value → Shared → Prop} {K : Frag} {x C f : Addr} {ox : Obj} {od : Option Obj} {name : Str} {args : List Value} {Q : Option Value → Shared → Prop} (X : K.In s.heap) (I : PySem.W.InstAt s.heap x ox C od)
    (hs : findIn K (.ref C) name = some (some (.ref f))) (hf : typeIn K (.ref f) = some (.type "function")) (h : wpN n M A (call (.ref f) (.ref x :: args)) (fun v => Q (some v)) E s) : wpN n M A (callSpecial? (.ref x) name args) Q E s := by
  unfold callSpecial? specialOf
  refine wpN_then (wpAny_bind (I.type.here ((looks_findIn X hs).here ?_)))
  refine wpN_holding (wpN_then ((bind_fn X _ hf).here ?_))
  exact wpN_bind (wpN_mono h (fun _ _ z => wpN_pure z) fun _ _ z => z)
theorem entry_sub' : entryFor table "lifetime.subscript" = some Builtin.«lifetime.subscript» := entryFor_of_tree (by kernel_rfl)
/-- x[i], x of a class of the text that has __getitem__ -/
theorem sub_inst {value slice : Expr} {x C d f : Addr} {t t' : Tag} {mm : List (Str × AV)} {i : AV} {Q : AV → LM → AHeap → Prop} {u y : Value} (ok : Ok c W s H) (fo : Fo c W s H env A m) (h1 : H x = some (t, .inst C d) ∨ ∃ v, H x = some (t, .slot1 C d v)) (h2 : H d = some (t', .nS mm))
    (hs : findIn c.K (.ref C) "__getitem__" = some (some (.ref f))) (hf : fnIn c.K f = true) (hfn : typeIn c.K (.ref f) = some (.type "function"))
    (r1 : VR W u (.ref x)) (r2 : VR W y i) (h : CallOk nf c A.in1 H (.ref f) [.ref x, i] [] (fun v H' => Q v m H') (fun e H' => E e m H')) (hp : plainIdx slice = true := by rfl) : G nf c A env VR Q E W s H (subscriptTail value slice u y) := by
  obtain rfl : u = .ref x := r1
  have I : ∃ ox od, PySem.W.InstAt s.heap x ox C od := by
    rcases h1 with h1 | ⟨v, h1⟩
    · obtain ⟨od, I, _⟩ := ok.inst h1 h2; exact ⟨_, _, I⟩
    · obtain ⟨v', od, I, _⟩ := ok.slotI h1 h2; exact ⟨_, _, I⟩
  obtain ⟨ox, od, I⟩ := I
  have X := ok.kin
  have hf' := hf
  unfold fnIn at hf
  split at hf
  · rename_i e
    show wpN _ _ _ (subscriptTail value slice (.ref x) y) _ _ _
    unfold subscriptTail getitemInPython
    refine wpN_then (wpAny_bind (wpAny_bind (I.type.here ((looks_findIn X hs).here ?_))))
    dsimp only
    refine wpAny_bind (wpAny_load (X _ _ e) (wpAny_pure ?_))
    dsimp only
    have hsl : subscripted slice true (.ref x) y = runValue (.builtin "lifetime.subscript" ⟨[.ref x, y], []⟩) := by cases slice <;> first | rfl | cases hp
    rw [hsl]
    refine wpN_bind (wpN_runValue (codeN_builtin entry_sub' ?_) rfl)
    show wpN nf c.M A.in1 _ _ _ _
    unfold Builtin.«lifetime.subscript»
    obtain ⟨outer, hA, hff⟩ := fo.ff
    refine wpN_bind (special_fnN X I hs hfn (wpN_call (codeN_mono (h W s _ _ _ ok hA hff (.cons VR.ref' (.cons r2 .nil)) .nil) fun r s' hr => ?_)))
    rcases r with e | (_ | _ | _ | v)
    · obtain ⟨W', H', a, p, r, q⟩ := hr; exact ⟨W', H', m, a, p.x _, fo.keep p, r, q⟩
    · exact hr
    · exact hr
    · exact hr
    · obtain ⟨W', H', a, p, r, q⟩ := hr
      refine wpN_pure ?_
      show wpN nf c.M A (letTemporaryGo value (.ref x) v >>= fun _ => pure v) _ _ s'
      exact wpN_of (wpAny_bind (wpAny_letTemporaryGo (wpAny_pure ⟨W', H', m, a, p.x _, fo.keep p, r, q⟩)))
  · cases hf
end
end Nx
end
section
set_option autoImplicit false
namespace Nx

/-- tests with effect -/
structure AB (nf : Bool) (c : Cx) (A : Around) (env : Env) (m : LM) (H : AHeap) (e : Expr) (Q : Bool → LM → AHeap → Prop) (E : AV → LM → AHeap → Prop) : Prop where
  ag : AG RB nf c A env m H (isTrue e env (eval e env)) Q E
structure ABs (nf : Bool) (c : Cx) (A : Around) (env : Env) (m : LM) (H : AHeap) (op : BoolOp) (es : List Expr) (Q : Bool → LM → AHeap → Prop) (E : AV → LM → AHeap → Prop) : Prop where
  ag : AG RB nf c A env m H (allTrue op es env) Q E
section
variable {nf : Bool} {c : Cx} {A : Around} {env : Env} {m : LM} {H : AHeap} {E : AV → LM → AHeap → Prop} {W : WM} {s : Shared}

theorem ab_pb {e : Expr} {b : Bool} {Q : Bool → LM → AHeap → Prop} (h : PB c A env m H e b) (q : Q b m H) : AB nf c A env m H e Q E := .mk (h.pt.use q)
theorem ab_not {e : Expr} {pos : Pos} {Q : Bool → LM → AHeap → Prop} (h : AB nf c A env m H e (fun b m' H' => Q (!b) m' H') E) : AB nf c A env m H (.UnaryOp .Not e pos) Q E := .mk fun W s ok fo => by
  show wpN _ _ _ (isTrue (.UnaryOp .Not e pos) env _) _ _ _
  rw [arm_isTrue_UnaryOp]
  exact wpN_bind (AG.run h.ag ok fo fun W1 s1 m1 H1 x b p1 f1 r1 q => wpN_pure ⟨W1, H1, m1, !b, p1, f1, by rw [show x = b from r1], q⟩)
theorem ab_bool {op : BoolOp} {es : List Expr} {pos : Pos} {Q : Bool → LM → AHeap → Prop} (h : ABs nf c A env m H op es Q E) : AB nf c A env m H (.BoolOp op es pos) Q E := .mk fun W s ok fo => by
  show wpN _ _ _ (isTrue (.BoolOp op es pos) env _) _ _ _
  rw [arm_isTrue_BoolOp]
  exact h.ag W s ok fo
theorem abs_or_nil {Q : Bool → LM → AHeap → Prop} (q : Q false m H) : ABs nf c A env m H .Or [] Q E := .mk fun W s ok fo => wpN_pure (stay0 ok fo rfl q)
theorem abs_and_nil {Q : Bool → LM → AHeap → Prop} (q : Q true m H) : ABs nf c A env m H .And [] Q E := .mk fun W s ok fo => wpN_pure (stay0 ok fo rfl q)
theorem abs_or {e : Expr} {rest : List Expr} {Q : Bool → LM → AHeap → Prop} (h : AB nf c A env m H e (fun b m' H' => if b = true then Q true m' H' else ABs nf c A env m' H' .Or rest Q E) E) : ABs nf c A env m H .Or (e :: rest) Q E := .mk fun W s ok fo => by
  show wpN nf c.M A (do match BoolOp.Or, ← isTrue e env (eval e env) with | .And, false => pure false | .Or, true => pure true | _, _ => allTrue .Or rest env) _ _ s
  refine wpN_bind (AG.run h.ag ok fo fun W1 s1 m1 H1 x b p1 f1 r1 q => ?_)
  obtain rfl : x = b := r1
  cases x with
  | true => exact wpN_pure ⟨W1, H1, m1, true, p1, f1, rfl, q⟩
  | false => exact G.from p1 ((show ABs nf c A env m1 H1 .Or rest Q E from q).ag W1 s1 p1.ok f1)
theorem abs_and {e : Expr} {rest : List Expr} {Q : Bool → LM → AHeap → Prop} (h : AB nf c A env m H e (fun b m' H' => if b = true then ABs nf c A env m' H' .And rest Q E else Q false m' H') E) : ABs nf c A env m H .And (e :: rest) Q E := .mk fun W s ok fo => by
  show wpN nf c.M A (do match BoolOp.And, ← isTrue e env (eval e env) with | .And, false => pure false | .Or, true => pure true | _, _ => allTrue .And rest env) _ _ s
  refine wpN_bind (AG.run h.ag ok fo fun W1 s1 m1 H1 x b p1 f1 r1 q => ?_)
  obtain rfl : x = b := r1
  cases x with
  | false => exact wpN_pure ⟨W1, H1, m1, false, p1, f1, rfl, q⟩
  | true => exact G.from p1 ((show ABs nf c A env m1 H1 .And rest Q E from q).ag W1 s1 p1.ok f1)
/-- what is a value first -/
theorem ab_val {e : Expr} {Q : Bool → LM → AHeap → Prop} (h : AE nf c A env m H e (fun v m' H' => ∃ b, v = .bool b ∧ Q b m' H') E) (hs : isTrue e env (eval e env) = (do let v ← eval e env; standAt e.pos; holding [v] (truthy v)) := by rfl) : AB nf c A env m H e Q E := .mk fun W s ok fo => by
  show wpN _ _ _ (isTrue e env (eval e env)) _ _ _
  rw [hs]
  refine wpN_bind (AG.run h.ag ok fo fun W1 s1 m1 H1 x v p1 f1 r1 ⟨b, hb, q⟩ => ?_)
  subst hb
  obtain rfl : x = .bool b := r1
  exact wpN_bind (wpN_standAt (wpN_holding (wpN_of (wpAny_truthy_bool ⟨W1, H1, m1, b, p1, f1, rfl, q⟩))))

/-- what a comparison answers, the frame in sight -/
def CmpF (c : Cx) (A : Around) (env : Env) (m : LM) (H : AHeap) (op : CmpOp) (a b : AV) (v : Bool) : Prop :=
  ∀ W s u x, Ok c W s H → Fo c W s H env A m → VR W u a → VR W x b → wpAny c.M A (compareOp op u x) (fun y s' => ∃ W', Post c W s H W' s' H ∧ VR W' y (.bool v)) (fun _ _ => False) s
theorem CmpIs.f {op : CmpOp} {a b : AV} {v : Bool} (h : CmpIs c A H op a b v) : CmpF c A env m H op a b v := fun W s u x ok _ r1 r2 => h W s u x ok r1 r2
theorem pe_cmpF {l r : Expr} {op : CmpOp} {pos : Pos} {a b : AV} {v : Bool} (hl : PE c A env m H l a) (hr : PE c A env m H r b) (h : CmpF c A env m H op a b v) (hm : behindInMarks op r = false := by rfl) : PE c A env m H (.Compare l [op] [r] pos) (.bool v) := .mk fun W s ok fo =>
  wpAny_Compare1 (hl.run ok fo fun W1 s1 u p1 f1 r1 => hr.run p1.ok f1 fun W2 s2 x p2 f2 r2 => wpAny_mono (h W2 s2 u x p2.ok f2 (r1.mono p2.ext) r2) (fun _ _ ⟨W3, p3, r3⟩ => ⟨W3, (p1.trans p2).trans p3, r3⟩) fun _ _ z => z) hm
theorem pb_cmpF {l r : Expr} {op : CmpOp} {pos : Pos} {a b : AV} {v : Bool} (hl : PE c A env m H l a) (hr : PE c A env m H r b) (h : CmpF c A env m H op a b v) (hm : behindInMarks op r = false := by rfl) : PB c A env m H (.Compare l [op] [r] pos) v := .mk fun W s ok fo =>
  wpAny_isTrue_Compare1 (hl.run ok fo fun W1 s1 u p1 f1 r1 => hr.run p1.ok f1 fun W2 s2 x p2 f2 r2 => wpAny_mono (h W2 s2 u x p2.ok f2 (r1.mono p2.ext) r2) (fun y _ ⟨W3, p3, r3⟩ => by
    obtain rfl : y = .bool v := r3
    exact wpAny_truthy_bool ⟨W3, (p1.trans p2).trans p3, rfl⟩) fun _ _ z => z) hm
theorem ab_cmp {l r : Expr} {op : CmpOp} {pos : Pos} {Q : Bool → LM → AHeap → Prop} (hl : AE nf c A env m H l (fun a m1 H1 => AE nf c A env m1 H1 r (fun b m2 H2 => ∃ v, CmpF c A env m2 H2 op a b v ∧ Q v m2 H2) E) E) (hm : behindInMarks op r = false := by rfl) :
    AB nf c A env m H (.Compare l [op] [r] pos) Q E := .mk fun W s ok fo => by
  show wpN _ _ _ (isTrue (.Compare l [op] [r] pos) env _) _ _ _
  rw [isTrue_Compare1, markedBehindIn_of_false hm]
  refine wpN_bind (AG.run hl.ag ok fo fun W1 s1 m1 H1 u a p1 f1 r1 q1 => ?_)
  refine wpN_bind (wpN_holding (AG.both q1.ag p1.ok f1 (fun W2 s2 m2 H2 x b p2 f2 r2 ⟨v, hc, q⟩ => ?_) fun W2 s2 m2 H2 y z p2 f2 r2 q2 => ⟨W2, H2, m2, z, p1.trans p2, f2, r2, q2⟩))
  refine wpN_bind (wpN_standAt (wpN_bind (wpN_operate (wpN_of (wpAny_mono (hc W2 s2 u x p2.ok f2 (r1.mono p2.ext) r2) (fun y s3 ⟨W3, p3, r3⟩ => ?_) fun _ _ z => z.elim)))))
  obtain rfl : y = .bool v := r3
  exact wpN_holding (wpN_of (wpAny_truthy_bool ⟨W3, H2, m2, v, (p1.trans p2).trans (p3.x _), f2.keep p3, rfl, q⟩))
theorem a1_ifE {test : Expr} {body orelse : List Stmt} {pos : Pos} {Q : AFl → LM → AHeap → Prop} (h : AB nf c A env m H test (fun b m' H' => if b = true then AS nf c A env m' H' body Q E else AS nf c A env m' H' orelse Q E) E) : A1 nf c A env m H (.If test body orelse pos) Q E := .mk fun W s ok fo =>
  wpN_If (AG.run h.ag ok fo fun W1 s1 m1 H1 x b p1 f1 r1 q => by
    obtain rfl : x = b := r1
    cases x with
    | true => exact G.from p1 ((show AS nf c A env m1 H1 body Q E from q).ag W1 s1 p1.ok f1)
    | false => exact G.from p1 ((show AS nf c A env m1 H1 orelse Q E from q).ag W1 s1 p1.ok f1))
theorem ae_if {test body orelse : Expr} {pos : Pos} {Q : AV → LM → AHeap → Prop} (h : AB nf c A env m H test (fun b m' H' => if b = true then AE nf c A env m' H' body Q E else AE nf c A env m' H' orelse Q E) E) : AE nf c A env m H (.IfExp test body orelse pos) Q E := .mk fun W s ok fo => by
  show wpN _ _ _ (eval (.IfExp test body orelse pos) env) _ _ _
  rw [arm_eval_IfExp]
  refine wpN_bind (AG.run h.ag ok fo fun W1 s1 m1 H1 x b p1 f1 r1 q => ?_)
  obtain rfl : x = b := r1
  cases x with
  | true => exact G.from p1 ((show AE nf c A env m1 H1 body Q E from q).ag W1 s1 p1.ok f1)
  | false => exact G.from p1 ((show AE nf c A env m1 H1 orelse Q E from q).ag W1 s1 p1.ok f1)
theorem AE.mono {e : Expr} {Q Q' : AV → LM → AHeap → Prop} {E' : AV → LM → AHeap → Prop} (h : AE nf c A env m H e Q E) (hQ : ∀ v m' H', Q v m' H' → Q' v m' H') (hE : ∀ v m' H', E v m' H' → E' v m' H') : AE nf c A env m H e Q' E' := .mk (AG.mono h.ag hQ hE)
theorem AS.mono {ss : List Stmt} {Q Q' : AFl → LM → AHeap → Prop} {E' : AV → LM → AHeap → Prop} (h : AS nf c A env m H ss Q E) (hQ : ∀ v m' H', Q v m' H' → Q' v m' H') (hE : ∀ v m' H', E v m' H' → E' v m' H') : AS nf c A env m H ss Q' E' := .mk (AG.mono h.ag hQ hE)

theorem cmp_is_self {a : Addr} : CmpIs c A H .Is (.ref a) (.ref a) true := fun W s u x ok r1 r2 => by
  obtain rfl : u = .ref a := r1
  obtain rfl : x = .ref a := r2
  exact wpAny_is_ref_self (fin0 (Post.refl ok) VR.bool')
end
end Nx
end
section
set_option autoImplicit false
namespace Nx
section
variable {nf : Bool} {c : Cx} {A : Around} {env : Env} {m : LM} {H : AHeap} {E : AV → LM → AHeap → Prop} {W : WM} {s : Shared}

theorem upd_eq {a : Addr} {x : Tag × AObj} (h : H a = some x) : upd H a x = H := by
  funext b
  unfold upd
  split
  · rename_i e; rw [e, h]
  · rfl

/-! ### an instance that the text made at its top -/
structure KAt (c : Cx) (p C : Addr) (od : Obj) : Prop where
  cls : ClsOk c C
  at_ : ∃ dp, c.K.lookup p = some (instObj C dp) ∧ c.K.lookup dp = some od
theorem KAt.inst {p C : Addr} {od : Obj} (h : KAt c p C od) (ok : Ok c W s H) : PySem.W.InstAt s.heap p (instObj C (Classical.choose h.at_)) C (some od) := by
  obtain ⟨h1, h2⟩ := Classical.choose_spec h.at_
  exact ⟨ok.kin _ _ h1, rfl, rfl, ok.kin _ _ h2⟩
theorem pe_attrK {o : Expr} {name : Str} {pos : Pos} {p C : Addr} {od : Obj} {v : Value} {a : AV} (ho : PE c A env m H o (.ref p)) (hK : KAt c p C od) (hf : findObj c.K C (some od) name = some (.value v)) (hh : handedIn v = true) (hr : ∀ W, VR W v a)
    (he : eval (.Attribute o name pos) env = (do let ov ← eval o env; standAt pos.atName; let r ← holding [ov] (getAttr ov name true); letTemporaryGo o ov r; pure r) := by rfl) : PE c A env m H (.Attribute o name pos) a := .mk fun W s ok fo =>
  Attribute_any_ (ho.run ok fo fun W1 s1 u p1 f1 r1 => by
    obtain rfl : u = .ref p := r1
    exact get_value p1.ok.kin (hK.inst p1.ok) hK.cls.ga hf hh (fin p1 (hr _))) he

/-! ### dicts of instances, read and written as dicts -/
theorem plainly_nS {d : Addr} {t : Tag} {l : List (Str × AV)} (hd : H d = some (t, .nS l)) : Plainly c H (.ref d) "dict" := fun W s u ok r => by
  obtain rfl : u = .ref d := r
  obtain ⟨ob, g, kvs, es, ep, ⟨h1, h2, _⟩, _⟩ := ok.get hd
  exact ⟨⟨ob, g, h1⟩, fun b e => by cases e; exact ⟨ob, g, h2⟩⟩
theorem idx_none {es : Array DictEntry} {kvs : List (Str × Value)} {l : List (Str × AV)} {k : Str} (hp : Pairs (strKind c.prog c.w) es.toList kvs) (kv : KV W kvs l) (hl : look l k = none) : (es.findIdx? fun e => (strKind c.prog c.w).is k e.key) = none := by
  have h1 : (es.findIdx? fun e => (strKind c.prog c.w).is k e.key) = kvs.findIdx? fun kv => decide (kv.1 = k) := by
    rw [← hp.findIdx k]; obtain ⟨l⟩ := es; simp
  rw [h1, List.findIdx?_eq_none_iff]
  intro x hx
  have := look_none.mp hl
  rw [← kv.keys] at this
  exact decide_eq_false fun e => this (e ▸ List.mem_map_of_mem hx)
theorem call_get_nS {d : Addr} {t : Tag} {l : List (Str × AV)} {k : Str} {v : AV} {E : AV → AHeap → Prop} (hd : H d = some (t, .nS l)) (hl : look l k = none) : CallOk nf c A H (.builtin "dict.get") [.ref d, .str k, v] [] (fun r H' => r = v ∧ H' = H) E := .of fun W s vs ok hv => by
  cases hv with | cons r1 hv => cases hv with | cons r2 hv => cases hv with | cons r3 hv => cases hv with | nil =>
  rename_i u x y
  obtain rfl : u = .ref d := r1
  obtain ⟨tk, rfl⟩ := r2
  obtain ⟨ob, g, kvs, es, ep, ⟨h1, h2, h3⟩, hk, hp, hn, kv, _⟩ := ok.get hd
  refine codeAny_call_builtin F.slot_dict_get.plain F.entry_dict_get (F.slot_dict_get.check _ _ _ _ _ _ _ _ ⟨ob, g, h1⟩ (F.args_dict_get_3 _ _ _) ?_)
  show wpAny _ _ (dictGet d (.str k tk) >>= _) _ _ s
  refine wpAny_bind ?_
  unfold dictGet
  refine wpAny_holding (wpAny_bind ((strKind c.prog c.w).pyHash (strKind_is _ _ k tk) (wpAny_bind (wpAny_dictFind_of (s := { s with toks := s.toks + 1 }) (strKind_is c.prog c.w k tk) g h3 hk ?_))))
  rw [idx_none hp kv hl]
  refine wpAny_pure ?_
  show wpAny _ _ (Builtin.Dict.missed d (.str k tk) >>= _) _ _ _
  exact wpAny_bind (wpAny_missed_other (c.noMods (ok.own _ _ _ hd).1) (wpAny_pure ⟨W, H, _, Post.toks ok _, r3, rfl, rfl⟩))
theorem set_nS {d : Addr} {t : Tag} {l : List (Str × AV)} {k : Str} {v : AV} (hd : H d = some (t, .nS l)) (hl : look l k = none) (hz : l.length < 1000) : SetOk c A H (.ref d) (.str k) v (fun H' => H' = upd H d (t, .nS (put l k v))) := fun W s u x y ok r1 ⟨tk, r2⟩ r3 => by
  obtain rfl : u = .ref d := r1
  subst r2
  obtain ⟨ob, g, kvs, es, ep, ⟨h1, h2, h3⟩, hk, hp, hn, kv, _⟩ := ok.get hd
  have hT : s.TypeIs (.ref d) "dict" := ⟨ob, g, h1⟩
  have e1 := hp.length
  have e2 : es.toList.length = es.size := by simp
  have e3 := kv.length
  unfold setItem
  refine wpAny_holding (wpAny_bind (wpAny_sequenceKey hT (by decide) ?_))
  refine wpAny_bind (wpAny_callSpecial?_slot (name := Str.ofString "__setitem__") hT slot_dict_setitem (wpAny_call_entry slot_dict_setitem hT entry_dict_setitem ?_ (args_dict_setitem _ _ _)))
  show wpAny _ _ (Builtin.Dict.notOrdered "__setitem__" ⟨[.ref d, .str k tk, y], []⟩ >>= _) _ _ s
  refine wpAny_bind (wpAny_notOrdered_dict hT ?_)
  show wpAny _ _ (dictSet d (.str k tk) y >>= _) _ _ s
  refine wpAny_bind ?_
  unfold dictSet
  refine wpAny_holding (wpAny_bind ((strKind c.prog c.w).pyHash (strKind_is _ _ k tk) ?_))
  unfold dictSetHashed
  refine wpAny_holding (wpAny_bind (wpAny_dictFind_of (s := { s with toks := s.toks + 1 }) (strKind_is c.prog c.w k tk) g h3 hk ?_))
  rw [idx_none hp kv hl]
  have q := (nS_put (c := c) (tk := tk) (v := y) (name := k) hk hp hn).2.1 (idx_none hp kv hl)
  have q3 := (nS_put (c := c) (tk := tk) (v := y) (name := k) hk hp hn).2.2
  refine wpAny_bind (wpAny_rule (wpAny_updateDictKeys (s := { s with toks := s.toks + 1 }) (hz := by rw [sizeLine_eq]; omega) g h3 ?_))
  refine wpAny_pure ⟨_, rfl, wpAny_pure ⟨W, _, ok.upd (s.toks + 1) hd (.update ..) (Heap.get?_update_self _ g (Obj.isFreed_of_dict (Obj.data_mapDictKeys h3 _))) ?_ rfl, rfl⟩⟩
  obtain ⟨c1, c2⟩ := cls_mapDictKeys' ob (fun es => es.push ⟨(strKind c.prog c.w).hash k, .str k tk, y⟩)
  exact OR.nS' ⟨c1.trans h1, c2.trans h2, Obj.data_mapDictKeys h3 _⟩ q.1 q.2 q3 (kv.stored hn r3) (Nat.le_trans (put_length _ _ _) hz)

/-! ### an instance's dict handed out -/
theorem wpN_stack {M : Model} {E : Value → Shared → Prop} {Q : List (Code × Pos) → Shared → Prop} (h : ∀ st : List (Code × Pos), (∀ x ∈ st, NFc x.1 = true) → Q st s) : wpN true M A stack Q E s := fun Γ p hΓ hn => by
  show Q ((Γ.code, p) :: Γ.below) s
  refine h _ fun x hx => ?_
  rcases List.mem_cons.mp hx with rfl | hx
  · exact (hn rfl).1
  · exact (hn rfl).2 x hx
theorem wpN_of_ite {α : Type} {n : Bool} {M : Model} {b : Prop} [Decidable b] {x y : Sem α} {Q : α → Shared → Prop} {E : Value → Shared → Prop} (h1 : wpN n M A x Q E s) (h2 : wpN n M A y Q E s) : wpN n M A (if b then x else y) Q E s := by split <;> assumption
theorem handed {x C d : Addr} {t t' : Tag} {l : List (Str × AV)} {cd : ClassData} {Q : Option Addr → Shared → Prop} {E : Value → Shared → Prop} (ok : Ok c W s H) (h1 : H x = some (t, .inst C d)) (h2 : H d = some (t', .nS l)) (hc : clsIn c.K C = some cd) (hd : cd.hasDict = true)
    (h : ∀ s', Post c W s H W s' H → Q (some d) s') : wpN true c.M A (instanceDictHandedOut x) Q E s := by
  obtain ⟨ob, g, rfl⟩ := ok.get h1
  obtain ⟨od, g', kvs, es, ep, ⟨e1, e2, e3⟩, hk, hp, hn, kv, z⟩ := ok.get h2
  have fin : wpN true c.M A (update d fun o => if o.slots.isEmpty then { o with slots := #[none] } else o) (fun _ s'' => Q (some d) s'') E s := by
    have hf : ∀ f : Obj → Obj, (f od).cls = od.cls ∧ (f od).dict = od.dict ∧ (f od).data = od.data → Post c W s H W { s with heap := s.heap.update d f } H := fun f ⟨f1, f2, f3⟩ => by
      have p := ok.upd (t' := t') (o' := .nS l) (h' := s.heap.update d f) s.toks h2 (.update ..) (Heap.get?_update_self _ g' (Obj.isFreed_of_dict (f3.trans e3))) (OR.nS' (es := es) (ep := ep) (kvs := kvs) ⟨f1.trans e1, f2.trans e2, f3.trans e3⟩ hk hp hn kv z) rfl
      rw [upd_eq h2] at p; exact p
    exact wpN_of (wpAny_update g' (h _ (hf _ (by split <;> exact ⟨rfl, rfl, rfl⟩))))
  unfold instanceDictHandedOut
  refine wpN_bind ?_
  unfold instanceDict
  refine wpN_then (wpAny_loadPart g (wpN_then ((looks_clsIn ok.kin hc).here ?_)))
  rw [hd]
  refine wpN_pure ?_
  refine wpN_then (wpAny_loadPart g ?_)
  dsimp only
  refine wpN_bind (wpN_mono (Q := fun r s' => r = none ∧ s' = s) (E := fun _ _ => False) ?_ (fun r s' hr => ?_) fun _ _ z => z.elim)
  · show wpN true c.M A (load d >>= _) _ _ _
    refine wpN_then (wpAny_load g' ?_)
    rw [e3]
    dsimp only
    refine wpN_of_ite ?_ ?_
    · exact wpN_pure ⟨rfl, rfl⟩
    · refine wpN_bind (wpN_stack fun st hst => ?_)
      obtain ⟨ms, hms, hnt⟩ := c.thr
      have hfs : ∀ f : Code × Pos → Option (Option Value × List (Str × Value)), (∀ x ∈ st, f x = none) → st.findSome? f = none := fun f hf => List.findSome?_eq_none_iff.mpr hf
      rw [hfs _ (fun x hx => ?_)]
      · refine wpN_then (wpAny_nsGet (ok.ns hms) ?_)
        rw [hnt]
        exact wpN_pure ⟨rfl, rfl⟩
      · have := hst x hx
        obtain ⟨x1, x2⟩ := x
        dsimp only at this ⊢
        unfold NFc at this
        split
        · simp at this
        · rfl
  · obtain ⟨rfl, rfl⟩ := hr
    exact wpN_bind (wpN_mono fin (fun _ s'' q => wpN_pure q) fun _ _ z => z)
end
end Nx
end
section
set_option autoImplicit false
namespace Nx
section
variable {nf : Bool} {c : Cx} {A : Around} {env : Env} {m : LM} {H : AHeap} {E : AV → LM → AHeap → Prop} {W : WM} {s : Shared}

/-- a class whose instances show their dict -/
structure DictIs (c : Cx) (C pd B : Addr) : Prop where
  cls : ClsOk c C
  ga : findIn c.K (.ref C) "__getattribute__" = some (some (.builtin "object.__getattribute__"))
  gk : findIn c.K (.ref C) "__getattr__" = some none
  find : findIn c.K (.ref C) "__dict__" = some (some (.ref pd))
  get : specialIn c.K (.ref pd) "__get__" = some (some (.builtin "getset_descriptor.__get__"))
  takes : takesIn c.K (.ref pd) = some true
  gs : ∃ t, recIn c.K pd "getset_descriptor" = some [.str "__dict__" t, .ref B, .builtin "function.__dict__", .builtin "function.__dict__#set"]
  sub : subIn c.K (.ref C) (.ref B) = some true
  nsm : subIn c.K (.ref C) (.type "staticmethod") = some false
  ncm : subIn c.K (.ref C) (.type "classmethod") = some false
theorem DictIs.obj {C pd B : Addr} (h : DictIs c C pd B) (od : Option Obj) : findObj c.K C od "__dict__" = some (.bind (.builtin "getset_descriptor.__get__") (.ref pd)) := by
  have hd := h.cls.dict
  unfold hasDictIn at hd
  obtain ⟨cd, hc, _⟩ := any_some hd
  unfold findObj
  rw [hc, Option.bind_some, h.find, Option.bind_some]
  dsimp only
  rw [h.get, Option.bind_some]
  dsimp only
  rw [h.takes]
  rfl
theorem entry_fdict : entryFor table "function.__dict__" = some Builtin.«function.__dict__» := entryFor_of_tree (by kernel_rfl)
theorem nf_fdict (args : Args) : NFc (.builtin "function.__dict__" args) = true := (by decide : ("function.__dict__" != "lifetime.gc.finalise") = true)
theorem ae_instdict {o : Expr} {pos : Pos} {x C d pd B : Addr} {t t' : Tag} {l : List (Str × AV)} {Q : AV → LM → AHeap → Prop} (hD : DictIs c C pd B) (ho : PE c A env m H o (.ref x)) (h1 : H x = some (t, .inst C d)) (h2 : H d = some (t', .nS l)) (q : Q (.ref d) m H)
    (he : eval (.Attribute o "__dict__" pos) env = (do let ov ← eval o env; standAt pos.atName; let r ← holding [ov] (getAttr ov "__dict__" true); letTemporaryGo o ov r; pure r) := by rfl) : AE true c A env m H (.Attribute o "__dict__" pos) Q E := .mk fun W s ok fo => by
  show wpN _ _ _ (eval _ env) _ _ _
  rw [he]
  refine wpN_then (ho.run ok fo fun W1 s1 u p1 f1 r1 => ?_)
  obtain rfl : u = .ref x := r1
  refine wpN_bind (wpN_standAt (wpN_bind (wpN_holding ?_)))
  obtain ⟨od, I, g, L⟩ := p1.ok.inst h1 h2
  have X := p1.ok.kin
  have hd := hD.cls.dict
  unfold hasDictIn at hd
  obtain ⟨cd, hc, hcd⟩ := any_some hd
  obtain ⟨tk, hrec⟩ := hD.gs
  obtain ⟨dd, sl, ho'⟩ := rec_of X hrec
  have p2 := Post.toks p1.ok (s1.toks + 1)
  refine get_bindN X I hD.ga (hD.obj _) hD.gk (wpN_call (codeN_call_builtin KF.slot_gs.plain rfl KF.entry_gs (KF.slot_gs.check _ _ _ _ _ _ _ _ ⟨_, ho', rfl⟩ (KF.args_gs _ _ _) ?_)))
  unfold Builtin.«getset_descriptor.__get__» Builtin.Getset_descriptor.descrGet
  rw [dga_obj]
  refine wpN_then (wpAny_pure ?_)
  have L0 : Looks c.M s1.heap (isInstance (.ref x) (.ref B)) true := I.type.andThen (looks_subIn X hD.sub)
  have f0 := looks_field (M := c.M) ho' 0 (v := .str "__dict__" tk) rfl
  have f1' := looks_field (M := c.M) ho' 1 (v := .ref B) rfl
  have f2 := looks_field (M := c.M) ho' 2 (v := .builtin "function.__dict__") rfl
  have f3 : Looks c.M s1.heap (Builtin.Getset_descriptor.descrItself (.ref pd)) [] := ((Looks.ld (part := none) ho').andThen .now).andThen (Looks.of_pure (by kernel_rfl))
  have P : ∀ (A : Around) (Q : PySem.Fin → Shared → Prop) (E : Value → Shared → Prop) (g dr tk os), Q (.again (.builtin "function.__dict__" ⟨[.ref x], []⟩)) ⟨s1.heap, g, dr, tk, os⟩ → wpAny c.M A (Builtin.Getset_descriptor.descrGetter (.ref pd) (some (.ref x))) Q E ⟨s1.heap, g, dr, tk, os⟩ := by
    intro A Q E g dr tk os hq
    unfold Builtin.Getset_descriptor.descrGetter Builtin.Getset_descriptor.descrCheckInstance Builtin.Getset_descriptor.descrNameAndClass
    repeat lk
    exact hq
  refine wpN_of (P _ _ _ _ _ _ _ ?_)
  refine ⟨Code.quiet_builtin _ (by decide +kernel), nf_fdict _, codeN_builtin entry_fdict ?_⟩
  unfold Builtin.«function.__dict__»
  have n1 : Looks c.M s1.heap (isInstance (.ref x) (.type "staticmethod")) false := I.type.andThen (looks_subIn X hD.nsm)
  have n2 : Looks c.M s1.heap (isInstance (.ref x) (.type "classmethod")) false := I.type.andThen (looks_subIn X hD.ncm)
  have n3 : Looks c.M s1.heap (isInstance (.ref x) (.type "staticmethod") <||> isInstance (.ref x) (.type "classmethod")) false := n1.andThen n2
  refine wpN_then (n3.at ?_)
  rw [if_neg Bool.false_ne_true]
  refine wpN_bind (handed p2.ok h1 h2 hc hcd fun s3 p3 => ?_)
  refine wpN_pure ⟨rfl, ?_⟩
  have pp := (p1.trans p2).trans p3
  exact wpN_of (wpAny_bind (wpAny_letTemporaryGo (wpAny_pure ⟨W1, H, m, .ref d, pp.x _, fo.keep pp, rfl, q⟩)))
end
end Nx
end
section
set_option autoImplicit false
namespace Nx

/-- room for k calls, one in the other -/
structure Rm (A : Around) (k : Nat) : Prop where
  d : A.depth + 2 * k < recursionLimit
  u : A.units + 8 * k + 8 < cLine
  h : A.handled = none
theorem Rm.deeper {A : Around} {k : Nat} (h : Rm A (k + 1)) (env : Env) : Rm (A.deeper env) k := ⟨by have := h.d; show A.depth + 1 + 2 * k < _; omega, by have := h.u; show A.units + 3 + 8 * k + 8 < _; omega, h.h⟩
theorem Rm.of {A A' : Around} {k : Nat} (h : Rm A (k + 1)) (hd : A'.depth = A.depth + 1) (hu : A'.units = A.units + 1) (hh : A'.handled = A.handled) : Rm A' k := ⟨by have := h.d; omega, by have := h.u; omega, hh.trans h.h⟩
theorem Rm.in1 {A : Around} {k : Nat} (h : Rm A (k + 1)) : Rm A.in1 k := ⟨by have := h.d; show A.depth + 2 * k < _; omega, by have := h.u; show A.units + 1 + 8 * k + 8 < _; omega, h.h⟩
theorem Rm.less {A : Around} {k j : Nat} (h : Rm A k) (hj : j ≤ k) : Rm A j := ⟨by have := h.d; omega, by have := h.u; omega, h.h⟩
theorem Rm.room {A : Around} {k : Nat} (h : Rm A k) : A.depth < recursionLimit := by have := h.d; omega
theorem Rm.unit {A : Around} {k : Nat} (h : Rm A k) : A.units + 1 < cLine := by have := h.u; omega

section
variable {nf : Bool} {c : Cx} {A : Around} {env : Env} {m : LM} {H : AHeap} {E : AV → LM → AHeap → Prop} {W : WM} {s : Shared}

/-- a function that an instance of the text's top holds in its own dict -/
theorem ae_methK {o : Expr} {name : Str} {apos pos : Pos} {args : List Expr} {p C f : Addr} {od : Obj} {Q : AV → LM → AHeap → Prop} (ho : PE c A env m H o (.ref p)) (hK : KAt c p C od) (hga : findIn c.K (.ref C) "__getattribute__" = some (some (.builtin "object.__getattribute__"))) (hgk : findIn c.K (.ref C) "__getattr__" = some none)
    (hm : findIn c.K (.ref C) name = some none) (hf : findObj c.K C (some od) name = some (.value (.ref f))) (hk : KeepOk c (.ref f))
    (ha : AL nf c A env m H pos args (fun vs m' H' => CallOk nf c A H' (.ref f) vs [] (fun v H3 => Q v m' H3) (fun e H3 => E e m' H3)) E)
    (hst : (backTo pos (starEach args env)).any (·.1) = false := by rfl)
    (he : ∃ pl, eval (.Call (.Attribute o name apos) args [] pos) env = (do
      let ov ← eval o env
      standAt apos.atName
      let (f, first) ← holding [ov] (getMethod ov name pl)
      callWith pos f first (backTo pos (starEach args env)) (backToKw pos (keywordEach [] env))) := by exact ⟨_, rfl⟩) : AE nf c A env m H (.Call (.Attribute o name apos) args [] pos) Q E := .mk fun W s ok fo => by
  obtain ⟨pl, he⟩ := he
  show wpN _ _ _ (eval _ env) _ _ _
  rw [he]
  refine wpN_then (ho.run ok fo fun W1 s1 u p1 f1 r1 => wpN_bind (wpN_standAt (wpN_bind (wpN_holding (wpN_of ?_)))))
  obtain rfl : u = .ref p := r1
  have I := hK.inst p1.ok
  refine method_usual p1.ok.kin I hga hgk hm rfl (get_value p1.ok.kin I hga hf rfl ?_)
  have p2 := Post.toks p1.ok (s1.toks + 1)
  refine G.from ((p1.trans p2).x _) (callWith_ok (names := []) hk p2.ok (f1.keep p2) (.nil : All2 (VR W1) [] []) ?_ rfl rfl hst)
  exact .mk (AG.mono ha.ag (fun vs m' H' h3 => (kw_nil (pos := pos)).pt.use ⟨rfl, h3⟩) fun _ _ _ z => z)

theorem a1_tryN {body orelse : List Stmt} {h₀ : ExceptHandler} {hs : List ExceptHandler} {pos : Pos} {Q : AFl → LM → AHeap → Prop} (h : AS nf c A env m H body (fun f m' H' => match f with | .next => AS nf c A env m' H' orelse Q E | f => Q f m' H') (fun _ _ _ => False)) : A1 nf c A env m H (.Try body (h₀ :: hs) orelse [] pos) Q E :=
  a1_try (AS.mono h (fun _ _ _ z => z) fun _ _ _ z => z.elim)
end
end Nx
end
section
set_option autoImplicit false
namespace Nx

section
variable {prog : Program} {w : World} {A : Around} {E : Value → Shared → Prop} {s : Shared}
/-- a tuple's iterator at its end, in a clause that holds an exception -/
theorem tuple_endH {it t k : Addr} {i : Nat} {items : Array Value} {ok : Obj} {vs : Array Value} {Q : Option Value → Shared → Prop} (hh : A.handled = some (.ref k)) (hk : s.heap.get? k = some ok) (hkd : ok.data = .fields vs) (hk2 : vs[2]? = some .none) (hki : k ≠ it)
    (hit : IsTupIter s.heap it t i) (ht : IsTup s.heap t items) (hx : items[i]? = none)
    (hQ : ∀ h', Heap.ExtBut it s.heap h' → Q none { s with heap := h' }) : wpAny (model prog w) A (pyNext (.ref it)) Q E s := by
  obtain ⟨o, ho, hc, hd⟩ := id hit
  obtain ⟨ol, hol, _, nl, hdl⟩ := ht
  unfold pyNext
  refine wpAny_bind (wpAny_attempt (wpAny_callSpecial?_slot (name := Str.ofString "__next__") hit.typeIs slot_tupleiter_next (wpAny_call_entry slot_tupleiter_next hit.typeIs entry_tupleiter_next ?_ (args_tupleiter_next _))))
  show wpAny _ _ (field (.ref it) 0 >>= _) _ _ s
  refine wpAny_bind (wpAny_field ho hd (x := .ref t) rfl ?_)
  show wpAny _ _ (if (Value.ref t == Value.none) = true then _ else _) _ _ s
  rw [if_neg (show ¬ ((Value.ref t == Value.none) = true) from Bool.false_ne_true)]
  show wpAny _ _ (field (.ref it) 1 >>= _) _ _ s
  refine wpAny_bind (wpAny_field ho hd (x := .int i 0) rfl ?_)
  show wpAny _ _ (seqItems? (.ref t) >>= _) _ _ s
  refine wpAny_bind (wpAny_seqItems hol hdl ?_)
  simp only [Int.toNat_natCast, hx]
  refine wpAny_bind (wpAny_rule (wpAny_bind (wpAny_setField ho hd (by simp) ?_)))
  show wpAny _ _ (newExc (.type "StopIteration") [] >>= _) _ _ _
  refine wpAny_bind ?_
  simp only [newExc, newTuple]
  refine wpAny_bind (wpAny_newObj_type ?_ (by size_fits))
  refine wpAny_bind (m := firstArgMember _ _) (wpAny_of_eq (a := Value.none) (by first | rfl | (simp only [firstArgMember]; rfl)) ?_)
  refine wpAny_newObj_type ?_ (by size_fits)
  simp only [raiseNew]
  refine wpAny_bind (wpAny_handled ?_)
  rw [show A.in1.handled = some (.ref k) from hh]
  dsimp only
  generalize hg : (Heap.push (Heap.update s.heap it (Obj.mapFields fun x => x.setIfInBounds 0 Value.none)) { cls := Value.type "tuple", data := Data.seq [].toArray }) = h1
  have x1 : Heap.ExtBut it s.heap h1 := by rw [← hg]; exact (Heap.SameBut.update ..).extBut.push _
  have hk1 : h1.get? k = some ok := x1 k ok hki hk
  have hke : k ≠ h1.objs.size := Nat.ne_of_lt (Heap.lt_size hk1)
  rw [if_pos (by simpa using hke)]
  have hkk := Heap.get?_push_of_some { cls := Value.type "StopIteration", data := Data.fields (#[Value.ref (Heap.update s.heap it (Obj.mapFields fun x => x.setIfInBounds 0 Value.none)).objs.size, Value.none, Value.none, Value.none, Value.bool false, Value.none] ++ ownMembersOf (Value.type "StopIteration") []) } hk1
  refine wpAny_bind (wpAny_holding (wpAny_runValue (codeAny_builtin (b := Builtin.«proto.unchain») entry_unchain ?_)))
  show wpAny _ _ (field (.ref k) 2 >>= _) _ _ _
  refine wpAny_bind (wpAny_field hkk hkd hk2 ?_)
  rw [if_pos (by rfl)]
  refine wpAny_pure ?_
  have hget := Heap.get?_push_size h1 (o := { cls := Value.type "StopIteration", data := Data.fields (#[Value.ref (Heap.update s.heap it (Obj.mapFields fun x => x.setIfInBounds 0 Value.none)).objs.size, Value.none, Value.none, Value.none, Value.bool false, Value.none] ++ ownMembersOf (Value.type "StopIteration") []) }) rfl
  refine wpAny_bind (m := setField (.ref h1.objs.size) 2 (.ref k)) (wpAny_setField hget rfl (by rw [Array.size_append]; exact Nat.lt_of_lt_of_le (by decide : 2 < 6) (Nat.le_add_right _ _)) ?_)
  refine wpAny_throw ?_
  refine wpAny_bind (wpAny_isInstance (T := "StopIteration") (b := true) ⟨_, Heap.get?_update_self _ hget (Obj.isFreed_of_fields (Obj.data_mapFields rfl _)), Obj.cls_mapFields _ _⟩ isSubtype_stop ?_)
  refine wpAny_pure (hQ _ fun b o hb e => ?_)
  have hb1 := x1 b o hb e
  rw [Heap.get?_update_other _ _ (Nat.ne_of_gt (Heap.lt_size hb1))]
  exact Heap.get?_push_of_some _ hb1

/-- a tuple taken apart in such a clause -/
theorem unpackItemsH {t k : Addr} {items : Array Value} {ok : Obj} {vs : Array Value} {Q : List Value → Shared → Prop} (hh : A.handled = some (.ref k)) (hk : s.heap.get? k = some ok) (hkd : ok.data = .fields vs) (hk2 : vs[2]? = some .none) (ht : IsTup s.heap t items)
    (hQ : ∀ h', Heap.ExtBut s.heap.objs.size s.heap h' → Q items.toList { s with heap := h' }) : wpAny (model prog w) A (unpackItems (.ref t) items.size none) Q E s := by
  have hlt : t ≠ s.heap.objs.size := by obtain ⟨o, ho, _⟩ := ht; exact Nat.ne_of_lt (Heap.lt_size ho)
  have hkt : k ≠ s.heap.objs.size := Nat.ne_of_lt (Heap.lt_size hk)
  unfold unpackItems
  refine wpAny_bind ?_
  unfold notIterableAtAll
  refine wpAny_bind (wpAny_specialOf ht.typeIs slot_tuple_iter.lookup ?_)
  refine wpAny_pure ?_
  simp only [Bool.false_eq_true, if_false]
  refine wpAny_bind (wpAny_holding (iter_tuple ht ?_))
  refine wpAny_bind (wpAny_holding (draw_tuple hlt items.size 0 _ _ ⟨_, Heap.get?_push_size _ rfl, rfl, rfl⟩ (ht.push _) (by omega) fun h₁ hit₁ hs₁ => ?_))
  rw [show List.take items.size (List.drop 0 items.toList) = items.toList from by rw [List.drop_zero]; exact List.take_of_length_le (by simp), if_neg (by simp)]
  have hk1 : h₁.get? k = some ok := (hs₁.2 k hkt).trans (Heap.get?_push_of_some _ hk)
  refine wpAny_bind (wpAny_holding (tuple_endH hh hk1 hkd hk2 hkt hit₁ ((ht.push _).extBut hs₁.extBut hlt) (by simp) fun h₂ he₂ => ?_))
  simp only [Option.isSome_none, Bool.false_eq_true, if_false]
  exact wpAny_pure (hQ h₂ fun b o hb e => he₂ b o hb (hs₁.extBut b o hb (Heap.get?_push_of_some _ e)))
end

section
variable {nf : Bool} {c : Cx} {A : Around} {env : Env} {m : LM} {H : AHeap} {E : AV → LM → AHeap → Prop} {W : WM} {s : Shared}

/-- no clause holds an exception, or it is one of ours with nothing behind it -/
def Calm (A : Around) (H : AHeap) : Prop := A.handled = none ∨ ∃ k cls fl, A.handled = some (.ref k) ∧ ExcAt H k cls .none fl
/-- a value taken apart -/
def UnpOk (c : Cx) (A : Around) (H : AHeap) (a : AV) (vs : List AV) : Prop :=
  ∀ W s u, Ok c W s H → VR W u a → wpAny c.M A (unpackItems u vs.length none) (fun xs s' => ∃ W', Post c W s H W' s' H ∧ All2 (VR W') xs vs) (fun _ _ => False) s
theorem Ok.ext (ok : Ok c W s H) {h' : Heap} (n : Nat) (x : Heap.ExtBut s.heap.objs.size s.heap h') (hz : s.heap.objs.size ≤ h'.objs.size) : Post c W s H W { s with heap := h', toks := n } H := ok.grow n (fun b o e => x b o (Nat.ne_of_lt (Heap.lt_size e)) e) hz
theorem unp_core {a : Addr} {vs : List AV} {xs : List Value} (hC : Calm A H) (ok : Ok c W s H) (ht : IsTup s.heap a xs.toArray) (r : All2 (VR W) xs vs) : wpAny c.M A (unpackItems (.ref a) vs.length none) (fun xs s' => ∃ W', Post c W s H W' s' H ∧ All2 (VR W') xs vs) (fun _ _ => False) s := by
  have hl := r.length
  have e : vs.length = xs.toArray.size := by simp [hl]
  rw [e]
  rcases hC with hh | ⟨k, cls, fl, hh, x⟩
  · exact wpAny_ge (unpackItems_tuple hh ht fun h' he hz => ⟨W, ok.ext s.toks he hz.1, by simpa using r⟩)
  · obtain ⟨t, ws, T, t', ts, hk, _, _, h2, _⟩ := x
    obtain ⟨ob, g, _, hd⟩ := ok.rcdC hk
    exact wpAny_ge (unpackItemsH hh g hd (by simpa using h2) ht fun h' he hz => ⟨W, ok.ext s.toks he hz.1, by simpa using r⟩)
theorem unp_tup {vs : List AV} (hC : Calm A H) : UnpOk c A H (.tup vs) vs := fun W s u ok ⟨a, h1, h2⟩ => by
  subst h1
  obtain ⟨xs, D, r⟩ := ok.isTup h2
  exact unp_core hC ok D r
theorem unp_otup {a : Addr} {t : Tag} {vs : List AV} (hC : Calm A H) (ha : H a = some (t, .otup vs)) : UnpOk c A H (.ref a) vs := fun W s u ok r => by
  obtain rfl : u = .ref a := r
  obtain ⟨ob, g, xs, n, rfl, r⟩ := ok.get ha
  exact unp_core hC ok ⟨_, g, rfl, n, rfl⟩ r

/-! names bound in a row -/
def setms (m : LM) : List (Str × AV) → LM
  | [] => m
  | p :: r => setms (setm m p.1 p.2) r
theorem bind_row : ∀ {names : List Str} {vs : List AV} {xs : List Value} {m : LM} {W : WM} {s : Shared} {Q : Unit → Shared → Prop} {E : Value → Shared → Prop}, Ok c W s H → Fo c W s H env A m → All2 (VR W) xs vs → names.length = vs.length →
    (∀ x ∈ names, env.kindOf x = some .local) → env.scope.kind = .function →
    (∀ s', PostX c env.locals W s H W s' H → Fo c W s' H env A (setms m (names.zip vs)) → Q () s') → wpAny c.M A (assignInOrder (names.map fun n => bindName env n) xs) Q E s
  | [], vs, xs, m, W, s, Q, E, ok, fo, r, hl, _, _, h => by
    cases vs with
    | nil => cases r; exact assignInOrder_nil (h s ((Post.refl ok).x _) fo)
    | cons => cases hl
  | n :: ns, vs, xs, m, W, s, Q, E, ok, fo, r, hl, hk, hf, h => by
    cases r with
    | nil => cases hl
    | cons r1 r2 =>
      refine assignInOrder_cons (wpAny_bindName (store ok fo r1 (fun s1 p1 f1 => ?_) (hk n (.head _)) hf))
      exact bind_row p1.ok f1 r2 (by simpa using hl) (fun x hx => hk x (.tail _ hx)) hf fun s2 p2 f2 => h s2 (p1.trans p2) f2

/-- targets that are names -/
inductive NamesOf : List Expr → List Str → Prop where
  | nil : NamesOf [] []
  | cons {n : Str} {p : Pos} {es : List Expr} {ns : List Str} : NamesOf es ns → NamesOf (.Name n p :: es) (n :: ns)
theorem NamesOf.each {elts : List Expr} {names : List Str} (h : NamesOf elts names) : (assignEach elts env).length = names.length ∧ (assignEach elts env).findIdx? (·.1) = none := by
  induction h with
  | nil => exact ⟨rfl, rfl⟩
  | @cons n p es ns _ ih =>
    refine ⟨congrArg (· + 1) ih.1, ?_⟩
    show List.findIdx? (·.1) ((false, assign (.Name n p) env) :: assignEach es env) = none
    rw [List.findIdx?_cons]
    simp only [Bool.false_eq_true, if_false, ih.2, Option.map_none]
theorem asg_row {elts : List Expr} {names : List Str} (hN : NamesOf elts names) : ∀ {vs : List AV} {xs : List Value} {m : LM} {W : WM} {s : Shared} {Q : Unit → Shared → Prop} {E : Value → Shared → Prop}, Ok c W s H → Fo c W s H env A m → All2 (VR W) xs vs → names.length = vs.length →
    (∀ x ∈ names, env.kindOf x = some .local) → env.scope.kind = .function →
    (∀ s', PostX c env.locals W s H W s' H → Fo c W s' H env A (setms m (names.zip vs)) → Q () s') → wpAny c.M A (assignInOrder ((assignEach elts env).map (·.2)) xs) Q E s := by
  induction hN with
  | nil =>
    intro vs xs m W s Q E ok fo r hl _ _ h
    cases vs with
    | nil => cases r; exact assignInOrder_nil (h s ((Post.refl ok).x _) fo)
    | cons => cases hl
  | @cons n p es ns _ ih =>
    intro vs xs m W s Q E ok fo r hl hk hf h
    cases r with
    | nil => cases hl
    | cons r1 r2 =>
      refine assignInOrder_cons (t := assign (.Name n p) env) (assign_Name (store ok fo r1 (fun s1 p1 f1 => ?_) (hk n (.head _)) hf))
      exact ih p1.ok f1 r2 (by simpa using hl) (fun x hx => hk x (.tail _ hx)) hf fun s2 p2 f2 => h s2 (p1.trans p2) f2
/-- a tuple of names as the target, apart from what an iterator owns -/
theorem put_tuple {elts : List Expr} {k : Nat} {pos : Pos} {names : List Str} {a : AV} {vs : List AV} {u : Value} {Q : Unit → Shared → Prop} {E : Value → Shared → Prop} (ok : Ok c W s H) (fo : Fo c W s H env A m) (r : VR W u a) (hU : UnpOk c A H a vs) (hN : NamesOf elts names) (hl : names.length = vs.length) (hk : ∀ x ∈ names, env.kindOf x = some .local) (hf : env.scope.kind = .function)
    (h : ∀ W' s', PostX c env.locals W s H W' s' H → Fo c W' s' H env A (setms m (names.zip vs)) → Q () s') : wpAny c.M A (assign (.Tuple elts k pos) env u) Q E s := by
  rw [assign_Tuple]
  refine wpAny_bind (wpAny_standAt ?_)
  unfold unpack
  obtain ⟨e1, e2⟩ := hN.each (env := env)
  rw [e1, hl, e2]
  refine wpAny_bind (wpAny_holding (wpAny_mono (hU W s u ok r) (fun xs s1 ⟨W1, p1, r1⟩ => ?_) fun _ _ z => z.elim))
  exact asg_row hN p1.ok (fo.keep p1) r1 hl hk hf fun s2 p2 f2 => h W1 s2 ((p1.x _).trans p2) f2
/-- (x, y, ..) = value, no stores swapped -/
theorem a1_assign_tuple {elts : List Expr} {k : Nat} {tpos pos : Pos} {value : Expr} {names : List Str} {Q : AFl → LM → AHeap → Prop} (hN : NamesOf elts names) (hk : ∀ x ∈ names, env.kindOf x = some .local)
    (h : AE nf c A env m H value (fun a m' H' => ∃ vs, UnpOk c A H' a vs ∧ names.length = vs.length ∧ Q .next (setms m' (names.zip vs)) H') E) (hf : env.scope.kind = .function := by rfl)
    (hs : swapsWithSole [.Tuple elts k tpos] value pos.line env = pure false := by rfl) (hw : swappedStores [.Tuple elts k tpos] value env = pure none := by rfl) : A1 nf c A env m H (.Assign [.Tuple elts k tpos] value pos) Q E := .mk fun W s ok fo => by
  show wpN _ _ _ (exec _ env) _ _ _
  rw [exec_Assign, hs]
  refine wpN_bind (wpN_standAt (wpN_bind (wpN_pure ?_)))
  rw [if_neg (by decide)]
  refine wpN_bind (AG.run h.ag ok fo fun W1 s1 m1 H1 u a p1 f1 r1 ⟨vs, hU, hl, q⟩ => ?_)
  rw [hw]
  refine wpN_bind (wpN_pure (wpN_of ?_))
  show wpAny c.M A (do assignAll u [assign (.Tuple elts k tpos) env]; pure Flow.next) _ _ _
  refine wpAny_bind ?_
  show wpAny c.M A (assign (.Tuple elts k tpos) env u) _ _ _
  exact put_tuple p1.ok f1 r1 hU hN hl hk hf fun W2 s2 p2 f2 => wpAny_pure ⟨W2, H1, _, .next, p1.trans p2, f2, rfl, q⟩
/-- the same, the stores swapped (two or three names on one line) -/
theorem a1_assign_swap {elts : List Expr} {k : Nat} {tpos pos : Pos} {value : Expr} {names : List Str} {Q : AFl → LM → AHeap → Prop} (hk : ∀ x ∈ names, env.kindOf x = some .local)
    (h : AE nf c A env m H value (fun a m' H' => ∃ vs, UnpOk c A H' a vs ∧ names.length = vs.length ∧ Q .next (setms m' (names.reverse.zip vs.reverse)) H') E) (hf : env.scope.kind = .function := by rfl)
    (hs : swapsWithSole [.Tuple elts k tpos] value pos.line env = pure false := by rfl) (hw : swappedStores [.Tuple elts k tpos] value env = pure (some names) := by rfl) : A1 nf c A env m H (.Assign [.Tuple elts k tpos] value pos) Q E := .mk fun W s ok fo => by
  show wpN _ _ _ (exec _ env) _ _ _
  rw [exec_Assign, hs]
  refine wpN_bind (wpN_standAt (wpN_bind (wpN_pure ?_)))
  rw [if_neg (by decide)]
  refine wpN_bind (AG.run h.ag ok fo fun W1 s1 m1 H1 u a p1 f1 r1 ⟨vs, hU, hl, q⟩ => ?_)
  rw [hw]
  refine wpN_bind (wpN_pure (wpN_of ?_))
  show wpAny c.M A (do rule "assign.swapped-stores"; let items ← unpackItems u names.length none; assignInOrder (names.reverse.map fun n => bindName env n) items.reverse; pure Flow.next) _ _ _
  rw [hl]
  refine wpAny_bind (wpAny_rule (wpAny_bind (wpAny_mono (hU W1 s1 u p1.ok r1) (fun xs s2 ⟨W2, p2, r2⟩ => ?_) fun _ _ z => z.elim)))
  have rev : ∀ {xs : List Value} {vs : List AV}, All2 (VR W2) xs vs → All2 (VR W2) xs.reverse vs.reverse := by
    intro xs vs r
    have app : ∀ {l1 : List Value} {l2 : List AV} {r1 : List Value} {r2 : List AV}, All2 (VR W2) l1 l2 → All2 (VR W2) r1 r2 → All2 (VR W2) (l1 ++ r1) (l2 ++ r2) := by
      intro l1 l2 r1 r2 a b
      induction a with
      | nil => exact b
      | cons x _ ih => exact .cons x ih
    induction r with
    | nil => exact .nil
    | cons a _ ih => rw [List.reverse_cons, List.reverse_cons]; exact app ih (.cons a .nil)
  exact wpAny_bind (bind_row p2.ok (f1.keep p2) (rev r2) (by simp [hl]) (fun x hx => hk x (List.mem_reverse.mp hx)) hf fun s3 p3 f3 => wpAny_pure ⟨W2, H1, _, .next, p1.trans ((p2.x _).trans p3), f3, rfl, q⟩)
end
end Nx
end
section
set_option autoImplicit false
namespace Nx
section
variable {nf : Bool} {c : Cx} {A : Around} {env : Env} {m : LM} {H : AHeap} {E : AV → LM → AHeap → Prop} {W : WM} {s : Shared}

/-! ### ghosts: what is known of an object is told otherwise -/
theorem Ok.retell (ok : Ok c W s H) {a : Addr} {t t' : Tag} {o o' : AObj} (ha : H a = some (t, o)) (hg : o'.isGen = false) (h : ∀ ob, s.heap.get? a = some ob → OR c W ob o → OR c W ob o') : Post c W s H W s (Nx.upd H a (t', o')) := by
  obtain ⟨hB, ob, g, r⟩ := ok.own a t o ha
  refine ⟨⟨ok.old, ok.stat, ok.os, ok.bare, ok.low, fun b u x hx => ?_, ok.gen.sub fun b u gi P hx => ?_, fun b v hv => ?_⟩, Ext.refl W, fun b ob g _ _ _ => ⟨ob.slots, g⟩, Nat.le_refl _, fun b hb => ?_, fun _ h => .inl h⟩
  · by_cases e : b = a
    · subst e; rw [upd_same] at hx; cases hx; exact ⟨hB, ob, g, h ob g r⟩
    · rw [upd_ne e] at hx; exact ok.own b u x hx
  · by_cases e : b = a
    · subst e; rw [upd_same] at hx; cases hx; cases hg
    · rw [upd_ne e] at hx; exact hx
  · obtain ⟨h1, h2, h3⟩ := ok.frz b v hv
    have e : b ≠ a := fun e => by rw [e, ha] at h2; cases h2
    exact ⟨h1, (upd_ne e).trans h2, h3⟩
  · by_cases e : b = a
    · subst e; exact .inl (by rw [ha]; exact fun z => nomatch z)
    · rw [upd_ne e] at hb; exact .inl hb
def epOf (ob : Obj) : Nat := match ob.data with | .dict _ ep => ep | _ => 0
theorem Ok.pin (ok : Ok c W s H) {d : Addr} {t : Tag} {l : List (Int × AV)} (hd : H d = some (t, .dI l)) : ∃ ob kvs, Post c W s H W s (Nx.upd H d (t, .pin ob (.dI l))) ∧ Heap.DictAt (intKind c.prog c.w) s.heap d kvs (epOf ob) ∧ KV W kvs l := by
  obtain ⟨ob, g, kvs, ⟨es, ep, h1, h2, h3, h4, h5⟩, kv, z⟩ := ok.get hd
  refine ⟨ob, kvs, ok.retell hd rfl fun ob' g' r => ?_, ?_, kv⟩
  · rw [g] at g'; cases g'; exact ⟨rfl, r⟩
  · have e : epOf ob = ep := by unfold epOf; rw [h2]
    rw [e]; exact ⟨ob, es, g, h1, h2, h3, h4, h5⟩
theorem Ok.pinned (ok : Ok c W s H) {d : Addr} {t : Tag} {ob : Obj} {l : List (Int × AV)} (hd : H d = some (t, .pin ob (.dI l))) : ∃ kvs, Heap.DictAt (intKind c.prog c.w) s.heap d kvs (epOf ob) ∧ KV W kvs l := by
  obtain ⟨ob', g, e, kvs, ⟨es, ep, h1, h2, h3, h4, h5⟩, kv, z⟩ := ok.get hd
  subst e
  have e : epOf ob' = ep := by unfold epOf; rw [h2]
  exact ⟨kvs, by rw [e]; exact ⟨ob', es, g, h1, h2, h3, h4, h5⟩, kv⟩
theorem Ok.unpin (ok : Ok c W s H) {d : Addr} {t : Tag} {ob : Obj} {o : AObj} (hd : H d = some (t, .pin ob o)) (hg : o.isGen = false) : Post c W s H W s (Nx.upd H d (t, o)) := ok.retell hd hg fun _ _ r => r.1 ▸ r.2

/-! ### keys of a dict, one by one -/
abbrev keyIt (d : Addr) (i n ep : Nat) : AObj := .rcd (.type "dict_keyiterator") [.ref d, .con (.int i 0), .con (.int n 0), .con (.int ep 0)]
theorem Ok.keyIt (ok : Ok c W s H) {it d : Addr} {t : Tag} {i n ep : Nat} (h : H it = some (t, Nx.keyIt d i n ep)) : s.heap.IsKeyIter it d i n ep := by
  obtain ⟨o, vs, g, hc, hd, r⟩ := ok.rcd h
  cases r with | cons r1 r => cases r with | cons r2 r => cases r with | cons r3 r => cases r with | cons r4 r => cases r with | nil =>
  obtain rfl : _ = Value.ref d := r1
  obtain rfl : _ = Value.int i 0 := r2
  obtain rfl : _ = Value.int n 0 := r3
  obtain rfl : _ = Value.int ep 0 := r4
  exact ⟨o, g, hc, hd⟩
theorem KV.get {κ : Type} {kvs : List (κ × Value)} {l : List (κ × AV)} (h : KV W kvs l) {i : Nat} {k : κ} {a : AV} (e : l[i]? = some (k, a)) : ∃ v, kvs[i]? = some (k, v) ∧ VR W v a := by
  obtain ⟨⟨k', v⟩, h1, h2, h3⟩ := All2.get h e
  cases h2
  exact ⟨v, h1, h3⟩
/-- iter(d) -/
theorem iter_dI {d : Addr} {t' : Tag} (t : Tag) {l : List (Int × AV)} (hd : H d = some (t', .dI l)) : IterOk nf c A H (.ref d) (fun it H' => H it = none ∧ ∃ ob, H' = upd (upd H d (t', .pin ob (.dI l))) it (t, keyIt d 0 l.length (epOf ob))) := fun W s u ok r => by
  obtain rfl : u = .ref d := r
  obtain ⟨ob, kvs, p1, D, kv⟩ := ok.pin hd
  have hl := kv.length
  refine wpN_of (wpAny_pyIter_dict (c.noMods (ok.own _ _ _ hd).1) D ?_)
  rw [hl]
  have p2 := p1.ok.alloc (t := t) (o := keyIt d 0 l.length (epOf ob)) (ob := { cls := .type "dict_keyiterator", data := .fields #[.ref d, .int 0 0, .int l.length 0, .int (epOf ob) 0] }) s.toks (OR.rcd' (vs := [.ref d, .int 0 0, .int l.length 0, .int (epOf ob) 0]) rfl rfl (.cons VR.ref' (.cons VR.con' (.cons VR.con' (.cons VR.con' .nil))))) rfl rfl
  exact ⟨W, _, _, rfl, p1.trans p2, ok.fresh, ob, rfl⟩
theorem next_key_item {it d : Addr} {t t' : Tag} {i : Nat} {ob : Obj} {l : List (Int × AV)} {k : Int} {v : AV} (h1 : H it = some (t, keyIt d i l.length (epOf ob))) (h2 : H d = some (t', .pin ob (.dI l))) (hv : l[i]? = some (k, v)) :
    NextIs c A H (.ref it) (some (.int k)) (upd H it (t, keyIt d (i + 1) l.length (epOf ob))) := fun W s _ ok _ _ => by
  obtain ⟨kvs, D, kv⟩ := ok.pinned h2
  have hl := kv.length
  obtain ⟨x, hx, _⟩ := kv.get hv
  refine wpAny_pyNext_dict_item (hl ▸ ok.keyIt h1) D hx fun key h' hk hit hs => ?_
  obtain ⟨o, g, hc, hd⟩ := hit
  rw [hl] at hd
  obtain ⟨tk, rfl⟩ := Value.isInt_shape hk
  exact ⟨W, ok.upd s.toks h1 hs g (OR.rcd' (vs := [.ref d, .int ((i + 1 : Nat) : Int) 0, .int l.length 0, .int (epOf ob) 0]) hc hd (.cons VR.ref' (.cons VR.con' (.cons VR.con' (.cons VR.con' .nil))))) rfl, (show VR W (.int k tk) (.int k) from ⟨tk, rfl⟩)⟩
theorem next_key_end (hh : A.handled = none) {it d : Addr} {t t' : Tag} {i : Nat} {ob : Obj} {l : List (Int × AV)} (h1 : H it = some (t, keyIt d i l.length (epOf ob))) (h2 : H d = some (t', .pin ob (.dI l))) (hv : l[i]? = none) (hne : it ≠ d) :
    NextIs c A H (.ref it) none (upd (drop H it) d (t', .dI l)) := fun W s _ ok _ _ => by
  obtain ⟨kvs, D, kv⟩ := ok.pinned h2
  have hl := kv.length
  refine wpAny_size (wpAny_pyNext_dict_end hh (hl ▸ ok.keyIt h1) D (by simp at hv ⊢; omega) fun h' hs hz => ?_)
  have p1 := ok.lose s.toks h1 hs hz
  exact ⟨W, p1.trans (p1.ok.unpin ((drop_ne (Ne.symm hne)).trans h2) rfl), trivial⟩

/-! ### items -/
abbrev viewOf (d : Addr) : AObj := .rcd (.type "dict_items") [.ref d]
theorem call_items (t : Tag) {d : Addr} {t' : Tag} {l : List (Int × AV)} {E : AV → AHeap → Prop} (hd : H d = some (t', .dI l)) : CallOk nf c A H (.builtin "dict.items") [.ref d] [] (fun r H' => ∃ v, H v = none ∧ r = .ref v ∧ H' = upd H v (t, viewOf d)) E := .of fun W s vs ok hv => by
  cases hv with | cons r1 hv => cases hv with | nil =>
  rename_i u
  obtain rfl : u = .ref d := r1
  obtain ⟨kvs, D, kv, z1⟩ := ok.dI hd
  refine code_meets F.slot_dict_items D.mapOf.typeIs F.entry_dict_items (F.args_dict_items_1 _) (meets_dict_items (intKind c.prog c.w) d (c.noMods (ok.own _ _ _ hd).1)) ⟨⟨_, D⟩, ?_⟩
  exact ⟨W, _, _, ok.alloc (t := t) s.toks (OR.rcd' (vs := [.ref d]) rfl rfl (.cons VR.ref' .nil)) rfl rfl, VR.ref', _, ok.fresh, rfl, rfl⟩
theorem iter_items {v d : Addr} {t' t2 : Tag} (t : Tag) {l : List (Int × AV)} (hv : H v = some (t2, viewOf d)) (hd : H d = some (t', .dI l)) : IterOk nf c A H (.ref v) (fun it H' => H it = none ∧ ∃ ob, H' = upd (upd H d (t', .pin ob (.dI l))) it (t, .itm d 0 l.length (epOf ob))) := fun W s u ok r => by
  obtain rfl : u = .ref v := r
  obtain ⟨o, vs, g, hc, hdat, r⟩ := ok.rcd hv
  cases r with | cons r1 r => cases r with | nil =>
  obtain rfl : _ = Value.ref d := r1
  obtain ⟨ob, kvs, p1, D, kv⟩ := ok.pin hd
  have hl := kv.length
  refine wpN_of (wpAny_pyIter_items ⟨o, g, hc, hdat⟩ D ?_)
  rw [hl]
  have p2 := p1.ok.alloc (t := t) (o := .itm d 0 l.length (epOf ob)) (ob := { cls := .type "dict_itemiterator", data := .fields #[.none, .bool false, .ref d, .int 0 0, .int l.length 0, .int (epOf ob) 0, .none, .none] }) s.toks ⟨_, _, rfl⟩ rfl rfl
  exact ⟨W, _, _, rfl, p1.trans p2, ok.fresh, ob, rfl⟩
theorem next_item {it d : Addr} {t t' : Tag} (t3 : Tag) {i : Nat} {ob : Obj} {l : List (Int × AV)} {k : Int} {v : AV} (h1 : H it = some (t, .itm d i l.length (epOf ob))) (h2 : H d = some (t', .pin ob (.dI l))) (hv : l[i]? = some (k, v))
    {Q : Option Value → Shared → Prop} {E : Value → Shared → Prop} (ok : Ok c W s H) (h : ∀ s' a, H a = none → Post c W s H W s' (upd (upd H it (t, .itmo d (i + 1) l.length (epOf ob) a)) a (t3, .otup [.int k, v])) → Q (some (.ref a)) s') : wpAny c.M A (pyNext (.ref it)) Q E s := by
  obtain ⟨kvs, D, kv⟩ := ok.pinned h2
  have hl := kv.length
  obtain ⟨x, hx, rx⟩ := kv.get hv
  obtain ⟨ob1, g, k0, v0, rfl⟩ := ok.get h1
  refine wpAny_pyNext_items_item (hl ▸ g) D hx fun key h' hk hit ht hz hs => ?_
  obtain ⟨tk, rfl⟩ := Value.isInt_shape hk
  have hne : s.heap.objs.size ≠ it := Nat.ne_of_gt (Heap.lt_size g)
  -- first the iterator, then the tuple
  have hlen : s.heap.objs.size ≤ h'.objs.size := by omega
  refine h _ _ ok.fresh ⟨⟨oldK_low ok.old fun b o hb e => hs b o (fun q => absurd hb (Nat.not_lt.mpr (q ▸ (ok.own _ _ _ h1).1))) e, ?_, ok.os, ok.bare, Nat.le_trans ok.low hlen, fun b u y hy => ?_, ok.gen.sub fun b u gi P hy => ?_, fun b y hy => ?_⟩, Ext.refl W, fun b o e hH _ _ => ?_, hlen, fun b hb => ?_, fun _ h => .inl h⟩
  · obtain ⟨o, e⟩ := c.stat
    rw [e]
    exact hs _ _ (c.stat_ne (ok.own _ _ _ h1).1) (ok.stat.trans e)
  · by_cases e1 : b = s.heap.objs.size
    · subst e1
      rw [upd_same] at hy; cases hy
      exact ⟨ok.low, _, ht, [.int k tk, x], 0, rfl, .cons VR.int' (.cons rx .nil)⟩
    · rw [upd_ne e1] at hy
      by_cases e2 : b = it
      · subst e2
        rw [upd_same] at hy; cases hy
        exact ⟨(ok.own _ _ _ h1).1, _, hit, _, _, by rw [hl]⟩
      · rw [upd_ne e2] at hy
        obtain ⟨z1, ob2, z2, z3⟩ := ok.own b u y hy
        exact ⟨z1, ob2, hs b _ e2 z2, z3⟩
  · by_cases e1 : b = s.heap.objs.size
    · subst e1; rw [upd_same] at hy; cases hy
    · rw [upd_ne e1] at hy
      by_cases e2 : b = it
      · subst e2; rw [upd_same] at hy; cases hy
      · rw [upd_ne e2] at hy; exact hy
  · obtain ⟨z1, z2, ob2, z3, z4⟩ := ok.frz b y hy
    have e2 : b ≠ it := fun e => by rw [e, h1] at z2; cases z2
    have e1 : b ≠ s.heap.objs.size := Nat.ne_of_lt (Heap.lt_size z3)
    exact ⟨z1, (upd_ne e1).trans ((upd_ne e2).trans z2), ob2, hs b _ e2 z3, z4⟩
  · have e2 : b ≠ it := fun e => by rw [e, h1] at hH; cases hH
    exact ⟨o.slots, hs b _ e2 e⟩
  · by_cases e1 : b = s.heap.objs.size
    · exact .inr (Nat.le_of_eq e1.symm)
    · rw [upd_ne e1] at hb
      by_cases e2 : b = it
      · subst e2; exact .inl (by rw [h1]; exact fun z => nomatch z)
      · rw [upd_ne e2] at hb; exact .inl hb
theorem next_items_end (hh : A.handled = none) {it d : Addr} {t t' : Tag} {i : Nat} {ob : Obj} {l : List (Int × AV)} (h1 : H it = some (t, .itm d i l.length (epOf ob))) (h2 : H d = some (t', .pin ob (.dI l))) (hv : l[i]? = none) (hne : it ≠ d) :
    NextIs c A H (.ref it) none (upd (drop H it) d (t', .dI l)) := fun W s _ ok _ _ => by
  obtain ⟨kvs, D, kv⟩ := ok.pinned h2
  have hl := kv.length
  obtain ⟨ob1, g, k0, v0, rfl⟩ := ok.get h1
  refine wpAny_size (wpAny_pyNext_items_end hh (hl ▸ g) D (by simp at hv ⊢; omega) fun h' hs hz => ?_)
  have p1 := ok.lose s.toks h1 hs hz
  exact ⟨W, p1.trans (p1.ok.unpin ((drop_ne (Ne.symm hne)).trans h2) rfl), trivial⟩
/-- the owned tuple let go -/
theorem tuple_go {elts : List Expr} {k : Nat} {pos : Pos} {it d a : Addr} {t : Tag} {i n ep : Nat} {Q : Unit → Shared → Prop} {E : Value → Shared → Prop} (ok : Ok c W s H) (h1 : H it = some (t, .itmo d i n ep a)) (h : ∀ s', Post c W s H W s' (upd H it (t, .itm d i n ep)) → Q () s') :
    wpAny c.M A (letOwnedTupleGo (.Tuple elts k pos) (.ref it) (.ref a)) Q E s := by
  obtain ⟨ob1, g, k0, v0, rfl⟩ := ok.get h1
  exact wpAny_letOwnedTupleGo_items g fun h' he hs => h _ (ok.upd s.toks h1 hs he ⟨_, _, rfl⟩ rfl)
end
end Nx
end
section
set_option autoImplicit false
namespace Nx
def pick : List Stmt → Nat → Stmt
  | [], _ => .Pass ⟨0, 0, 0, 0⟩
  | s :: _, 0 => s
  | _ :: r, n + 1 => pick r n
def fbody : Stmt → List Stmt
  | .FunctionDef _ _ b _ _ _ _ _ _ _ => b
  | .ClassDef _ _ _ b _ _ _ _ _ _ _ => b
  | _ => []
def fpars : Stmt → Arguments
  | .FunctionDef _ a _ _ _ _ _ _ _ _ => a
  | _ => default
def fscope : Stmt → Scope
  | .FunctionDef _ _ _ _ _ _ s _ _ _ => s
  | _ => default
abbrev top (n : Nat) : Stmt := pick PySem.Challenge.pw_ci0023_01.main.body n

local macro_rules | `(tactic| walk_at "lk") => `(tactic| first | assumption | exact upd_same)
local macro_rules | `(tactic| walk_at "pe") => `(tactic| first
  | exact pe_int | exact pe_str | exact pe_none | exact pe_bool
  | exact pe_name rfl
  | (refine' pe_add ?l ?r; (case l => walk_at "pe"); (case r => walk_at "pe"))
  | (refine' pe_mul ?l ?r ?z; (case l => walk_at "pe"); (case r => walk_at "pe"); (case z => decide))
  | (refine' pe_mod ?l ?r ?z; (case l => walk_at "pe"); (case r => walk_at "pe"); (case z => first | assumption | decide | omega))
  | (refine' pe_fdiv ?l ?r ?z ?p; (case l => walk_at "pe"); (case r => walk_at "pe"); (case z => first | assumption | decide | omega); (case p => first | assumption | rfl))
  | (refine' pe_sub_list ?l ?r ?d ?z ?p; (case l => walk_at "pe"); (case r => walk_at "pe"); (case d => walk_at "lk"); (case z => first | decide | omega); (case p => first | rfl | assumption)))
section
variable {nf : Bool} {c : Cx} {A : Around} {H : AHeap}
abbrev sNext := top 17
theorem div64 (a b : Int) (hb : b.natAbs < 2 ^ 63) : Builtin.divisionGoesByPylong a b = false := by
  have : b.natAbs.log2 < 63 ∨ b.natAbs = 0 := by
    by_cases z : b.natAbs = 0
    · exact .inr z
    · exact .inl ((Nat.log2_lt z).mpr hb)
  unfold Builtin.divisionGoesByPylong
  by_cases z : b = 0
  · simp [z]
  · have z' : b.natAbs ≠ 0 := by omega
    have h2 : b.natAbs.log2 < 63 := this.resolve_right z'
    simp [z]
    intro h3
    omega
theorem next_ok {f : Addr} {cdv : Value} (hf : FnIs c f "_law_next" (fpars sNext) (fbody sNext) (fscope sNext) .none .none cdv) (hroom : A.depth < recursionLimit) {a : Addr} {t : Tag} {x many : Int} (ha : H a = some (t, .list [.int x])) (hm : 0 < many) :
    CallOk nf c A H (.ref f) [.ref a, .int many] [] (fun v H' => v = .int (((x * 48271 + 11).fmod 2147483647).fdiv 64 |>.fmod many) ∧ H' = upd H a (t, .list [.int ((x * 48271 + 11).fmod 2147483647)])) (fun _ _ => False) := by
  refine call_fn (P := fun ab H' => ab = ([("s", .ref a), ("many", .int many)] : List (Str × AV)) ∧ H' = H) hf rfl hroom ?_ ?_ ?_
  · intro name doc pm an ct W s vs kvs ok h1 h2
    cases h2
    cases h1 with | cons r1 h1 => cases h1 with | cons r2 h1 => cases h1 with | nil =>
    rename_i v1 v2
    refine BindsTo.of_eq (binds := [("s", v1), ("many", v2)]) rfl _ _ _ _ ⟨W, H, _, Post.refl ok, ?_, rfl, rfl⟩
    exact .cons ⟨rfl, r1⟩ (.cons ⟨rfl, r2⟩ .nil)
  · rintro ab H' ⟨rfl, rfl⟩
    rfl
  · rintro L ab H' ⟨rfl, rfl⟩ hL
    have hm0 : many ≠ 0 := by omega
    have hp := div64 ((x * 48271 + 11).fmod 2147483647) 64 (by decide)
    refine as_cons ?_
    refine a1_set_list (d := a) (k := 0) (by walk_at "pe") (by walk_at "pe") (by walk_at "pe") ha (by decide) (by show 0 < 1; decide) ?_
    refine as_cons ?_
    refine a1_return (by walk_at "pe") ⟨rfl, rfl⟩
end
end Nx
end
section
set_option autoImplicit false
namespace Nx
theorem CallOk.lift {nf : Bool} {c : Cx} {A : Around} {H : AHeap} {f : Value} {args : List AV} {kw : List (Str × AV)} {Q E : AV → AHeap → Prop} (h : CallOk false c A H f args kw Q E) : CallOk nf c A H f args kw Q E :=
  fun W s vs kvs outer ok hA hff hv hk => codeN_of (codeN_any (h W s vs kvs outer ok hA hff hv hk))
abbrev sGet := pick (fbody (top 10)) 2
local macro_rules | `(tactic| walk_at "lk") => `(tactic| first | assumption | exact upd_same)
local macro_rules | `(tactic| walk_at "pe") => `(tactic| first
  | exact pe_int | exact pe_str | exact pe_none | exact pe_bool
  | exact pe_name rfl
  | exact pe_glob (by assumption))
section
variable {c : Cx} {A : Around} {H : AHeap}
theorem cget_ok {fG fF x C d pd B p CP aNF : Addr} {T : Addr} {oT : Obj} {nT : Nat} {cdv : Value} {od : Obj} {nm : Str} {tkn : Tok} {l : List (Str × AV)} {t t' : Tag} {P : AV → AHeap → Prop}
    (hG : FnIs c fG "cached_property.__get__" (fpars sGet) (fbody sGet) (fscope sGet) (.ref T) .none cdv) (hT : c.K.lookup T = some oT) (hTd : oT.data = .seq #[.none] nT) (hNF : c.mg "_NOT_FOUND" = some (.ref aNF))
    (hK : KAt c p CP od) (hga : findIn c.K (.ref CP) "__getattribute__" = some (some (.builtin "object.__getattribute__"))) (hgk : findIn c.K (.ref CP) "__getattr__" = some none)
    (hn : findObj c.K CP (some od) "attrname" = some (.value (.str nm tkn))) (hfn : findIn c.K (.ref CP) "func" = some none) (hf : findObj c.K CP (some od) "func" = some (.value (.ref fF))) (hkF : KeepOk c (.ref fF))
    (hD : DictIs c C pd B) (h1 : H x = some (t, .inst C d)) (h2 : H d = some (t', .nS l)) (hl : look l nm = none) (hz : l.length < 1000) {j : Nat} (rm : Rm A (j + 1))
    (hF : ∀ A', Rm A' j → CallOk false c A' H (.ref fF) [.ref x] [] (fun v H' => H' d = some (t', .nS l) ∧ P v H') (fun _ _ => False)) :
    CallOk true c A H (.ref fG) [.ref p, .ref x, .ref C] [] (fun v H' => ∃ H0, P v H0 ∧ H' = upd H0 d (t', .nS (put l nm v))) (fun _ _ => False) := by
  refine call_fn (P := fun ab H' => ab = ([("self", .ref p), ("instance", .ref x), ("owner", .ref C)] : List (Str × AV)) ∧ H' = H) hG rfl rm.room ?_ ?_ ?_
  · intro name doc pm an ct W s vs kvs ok h1 h2
    cases h2
    cases h1 with | cons r1 h1 => cases h1 with | cons r2 h1 => cases h1 with | cons r3 h1 => cases h1 with | nil =>
    rename_i v1 v2 v3
    refine BindsTo.of_defaults (binds := [("self", v1), ("instance", v2), ("owner", v3)]) rfl (ok.kin _ _ hT) hTd rfl rfl _ _ _ _ ⟨W, H, _, Post.refl ok, ?_, rfl, rfl⟩
    exact .cons ⟨rfl, r1⟩ (.cons ⟨rfl, r2⟩ (.cons ⟨rfl, r3⟩ .nil))
  · rintro ab H' ⟨rfl, rfl⟩
    rfl
  · rintro L ab H' ⟨rfl, rfl⟩ hL
    have rm' := rm.deeper (envOf "cached_property.__get__" (fscope sGet) L fG cdv)
    refine as_cons (a1_if (b := false) (pb_cmp (by walk_at "pe") (by walk_at "pe") (cmp_is_none_f)) (as_nil ?_))
    refine as_cons (a1_if (b := false) (pb_cmp (pe_attrK (by walk_at "pe") hK hn rfl (fun _ => VR.str')) (by walk_at "pe") (cmp_is_none_f)) (as_nil ?_))
    refine as_cons (a1_tryN (as_cons (a1_assignE (ae_instdict hD (by walk_at "pe") h1 h2 ?_))))
    refine as_nil (as_nil ?_)
    refine as_cons (a1_assignE (ae_bmeth F.slot_dict_get F.plainAttrs_dict F.type_dict_get (a := .ref d) (by walk_at "pe") (plainly_nS h2) ?_))
    refine al_cons (ae_pe (pe_attrK (by walk_at "pe") hK hn rfl (fun _ => VR.str')) ?_)
    refine al_cons (ae_pe (by walk_at "pe") (al_nil ?_))
    refine CallOk.mono (call_get_nS h2 hl) ?_ fun _ _ z => z
    rintro v H' ⟨rfl, rfl⟩
    refine as_cons (a1_if (b := true) (pb_cmp (by walk_at "pe") (by walk_at "pe") (cmp_is_self)) ?_)
    refine as_cons (a1_assignE (ae_methK (by walk_at "pe") hK hga hgk hfn hf hkF ?_))
    refine al_cons (ae_pe (by walk_at "pe") (al_nil ?_))
    refine CallOk.mono (hF _ rm').lift ?_ fun _ _ z => z.elim
    rintro v H0 ⟨hd0, hP⟩
    refine as_cons (a1_tryN (as_cons (a1_setE (ae_pe (v := v) (by walk_at "pe") ⟨.ref d, .str nm, by walk_at "pe", pe_attrK (by walk_at "pe") hK hn rfl (fun _ => VR.str'), ?_⟩))))
    refine SetOk.mono (set_nS hd0 hl hz) ?_
    rintro H1 rfl
    refine as_nil (as_nil (as_nil ?_))
    refine as_cons (a1_return (v := v) (by walk_at "pe") ⟨H0, hP, rfl⟩)
end
end Nx
end
section
set_option autoImplicit false
namespace Nx
section
variable {nf : Bool} {c : Cx} {A : Around} {env : Env} {m : LM} {H : AHeap} {E : AV → LM → AHeap → Prop} {W : WM} {s : Shared}

/-! ### builtins, called without keywords -/
def CallW (nf : Bool) (c : Cx) (A : Around) (H : AHeap) (f : Value) (args : List AV) (Q E : AV → AHeap → Prop) : Prop :=
  ∀ W s vs outer, Ok c W s H → A.frames = some outer → FF c W s.heap H outer → All2 (VR W) vs args →
    wpN nf c.M A (call f vs) (fun v s' => ∃ W' H' a, Post c W s H W' s' H' ∧ VR W' v a ∧ Q a H') (fun e s' => ∃ W' H' a, Post c W s H W' s' H' ∧ VR W' e a ∧ E a H') s
theorem CallW.mono {f : Value} {args : List AV} {Q Q' E E' : AV → AHeap → Prop} (h : CallW nf c A H f args Q E) (hQ : ∀ v H', Q v H' → Q' v H') (hE : ∀ v H', E v H' → E' v H') : CallW nf c A H f args Q' E' :=
  fun W s vs outer ok hA hff hv => wpN_mono (h W s vs outer ok hA hff hv) (fun _ _ ⟨W', H', a, p, r, q⟩ => ⟨W', H', a, p, r, hQ _ _ q⟩) fun _ _ ⟨W', H', a, p, r, q⟩ => ⟨W', H', a, p, r, hE _ _ q⟩
theorem ae_callW {func : Expr} {args : List Expr} {pos : Pos} {fv : AV} {f : Value} {Q : AV → LM → AHeap → Prop} (hf : PE c A env m H func fv) (hfv : ∀ W u, VR W u fv → u = f) (hk : KeepOk c f)
    (ha : AL nf c A env m H pos args (fun vs m' H' => CallW nf c A H' f vs (fun v H3 => Q v m' H3) (fun e H3 => E e m' H3)) E)
    (hp : (backTo pos (starEach args env)).any (·.1) = false := by rfl)
    (he : eval (.Call func args [] pos) env = (do let fv ← eval func env; callWith pos fv [] (backTo pos (starEach args env)) (backToKw pos (keywordEach [] env))) := by rfl) : AE nf c A env m H (.Call func args [] pos) Q E := .mk fun W s ok fo => by
  show G nf c A env VR Q E W s H (eval _ env)
  rw [he]
  refine wpN_then (hf.run ok fo fun W1 s1 u p1 f1 r1 => ?_)
  obtain rfl := hfv _ _ r1
  refine callWith_ofN (P := fun h => c.K.In h) (by rw [hp]; rfl) (fun h X => hk h X) ?_
  refine evalArgs_N hp rfl ?_
  refine wpN_mono (ha.ag W1 s1 p1.ok f1) (fun xs s2 ⟨W2, H2, m2, vs, p2, f2, r2, q2⟩ => ?_) (fun e s2 ⟨W2, H2, m2, y, p2, f2, r2, q2⟩ => ⟨W2, H2, m2, y, (p1.x _).trans p2, f2, r2, q2⟩)
  show wpN _ _ _ (pure []) _ _ _
  refine wpN_pure ⟨p2.ok.kin, ?_⟩
  obtain ⟨outer, hA, hff⟩ := f2.ff
  have p12 := (p1.x env.locals).trans p2
  refine wpN_mono (q2 W2 s2 xs _ p2.ok hA hff r2) (fun v s3 ⟨W3, H3, a, p3, r3, q3⟩ => ⟨W3, H3, m2, a, p12.trans (p3.x _), f2.keep p3, r3, q3⟩) (fun v s3 ⟨W3, H3, a, p3, r3, q3⟩ => ⟨W3, H3, m2, a, p12.trans (p3.x _), f2.keep p3, r3, q3⟩)

def CallP (c : Cx) (A : Around) (H : AHeap) (f : Value) (args : List AV) (v : AV) : Prop :=
  ∀ W s vs, Ok c W s H → All2 (VR W) vs args → wpAny c.M A (call f vs) (fun u s' => ∃ W', Post c W s H W' s' H ∧ VR W' u v) (fun _ _ => False) s
theorem pe_call {func : Expr} {args : List Expr} {pos : Pos} {fv v : AV} {f : Value} {vs : List AV} (hf : PE c A env m H func fv) (hfv : ∀ W u, VR W u fv → u = f) (hk : KeepOk c f) (ha : PT (fun W => All2 (VR W)) c A env m H (spliced (backTo pos (starEach args env))) vs) (h : CallP c A H f vs v)
    (hp : (backTo pos (starEach args env)).any (·.1) = false := by rfl)
    (he : eval (.Call func args [] pos) env = (do let fv ← eval func env; callWith pos fv [] (backTo pos (starEach args env)) (backToKw pos (keywordEach [] env))) := by rfl) : PE c A env m H (.Call func args [] pos) v := .mk fun W s ok fo => by
  show wpAny _ _ (eval _ env) _ _ _
  rw [he]
  refine wpAny_bind (hf.run ok fo fun W1 s1 u p1 f1 r1 => ?_)
  obtain rfl := hfv _ _ r1
  refine wpN_any <| callWith_ofN (P := fun h => c.K.In h) (by rw [hp]; rfl) (fun h X => hk h X) ?_
  refine evalArgs_N hp rfl (wpN_of <| ha.run p1.ok f1 fun W2 s2 xs p2 f2 r2 => ?_)
  show wpN _ _ _ (pure []) _ _ _
  refine wpN_pure ⟨p2.ok.kin, wpN_of ?_⟩
  exact wpAny_mono (h W2 s2 xs p2.ok r2) (fun v s3 ⟨W3, p3, r3⟩ => ⟨W3, (p1.trans p2).trans p3, r3⟩) fun _ _ z => z.elim
theorem con_is {v : Value} (W : WM) (u : Value) (h : VR W u (.con v)) : u = v := h

theorem cp_min {a b : Int} (hh : A.handled = none) : CallP c A H (.builtin "min") [.int a, .int b] (.int (min a b)) := fun W s vs ok hv => by
  cases hv with | cons r1 hv => cases hv with | cons r2 hv => cases hv with | nil =>
  obtain ⟨t, rfl⟩ := r1
  obtain ⟨u, rfl⟩ := r2
  refine wpAny_size (min_two_ints hh fun h' tk k hz => ⟨W, ok.grow _ k hz, ?_⟩)
  by_cases z : b < a
  · rw [if_pos z, show min a b = b by omega]; exact VR.int'
  · rw [if_neg z, show min a b = a by omega]; exact VR.int'
theorem cp_max {a b : Int} (hh : A.handled = none) : CallP c A H (.builtin "max") [.int a, .int b] (.int (max a b)) := fun W s vs ok hv => by
  cases hv with | cons r1 hv => cases hv with | cons r2 hv => cases hv with | nil =>
  obtain ⟨t, rfl⟩ := r1
  obtain ⟨u, rfl⟩ := r2
  refine wpAny_size (max_two_ints hh fun h' tk k hz => ⟨W, ok.grow _ k hz, ?_⟩)
  by_cases z : b > a
  · rw [if_pos z, show max a b = b by omega]; exact VR.int'
  · rw [if_neg z, show max a b = a by omega]; exact VR.int'
theorem cp_abs {a : Int} : CallP c A H (.builtin "abs") [.int a] (.int (a.natAbs : Int)) := fun W s vs ok hv => by
  cases hv with | cons r1 hv => cases hv with | nil =>
  obtain ⟨t, rfl⟩ := r1
  refine call_abs_int fun u tk => ⟨W, Post.toks ok _, ?_⟩
  by_cases z : a < 0
  · rw [if_pos z, show ((a.natAbs : Int)) = -a by omega]; exact VR.int'
  · rw [if_neg z, show ((a.natAbs : Int)) = a by omega]; exact VR.int'
theorem cp_len_tup {l : List AV} (hz : l.length ≤ 1000) : CallP c A H (.builtin "len") [.tup l] (.int l.length) := fun W s vs ok hv => by
  cases hv with | cons r1 hv => cases hv with | nil =>
  obtain ⟨a, rfl, ha⟩ := r1
  obtain ⟨_, _, ob, g, xs, n, rfl, r⟩ := ok.frz _ _ ha
  refine P.len_tuple (show IsT _ _ _ _ from g) (by have := r.length; simp; omega) (fin (Post.refl ok) ?_)
  rw [← r.length]
  exact VR.int'
/-! range -/
theorem cw_range (t : Tag) {n : Int} {E' : AV → AHeap → Prop} : CallW nf c A H (.type "range") [.int n] (fun r H' => ∃ d, H d = none ∧ r = .ref d ∧ H' = upd H d (t, .rng n)) E' := fun W s vs outer ok hA hff hv => by
  cases hv with | cons r1 hv => cases hv with | nil =>
  obtain ⟨tk, rfl⟩ := r1
  refine wpN_of (call_range_1 ?_)
  exact ⟨W, _, _, ok.alloc (t := t) (o := .rng n) _ ⟨_, _, _, rfl⟩ rfl rfl, VR.ref', _, ok.fresh, rfl, rfl⟩
/-! dict(d) -/
theorem Ok.dS_news (ok : Ok c W s H) (t : Tag) {l : List (Str × AV)} {kvs : List (Str × Value)} {h' : Heap} (hm : Heap.DictOf (strKind c.prog c.w) h' s.heap.objs.size kvs) (kv : KV W kvs l) (hz : l.length ≤ 1000) (hs : Heap.SameBut s.heap.objs.size (s.heap.push { cls := .type "dict", data := .dict #[] }) h') :
    Post c W s H W { s with heap := h' } (Nx.upd H s.heap.objs.size (t, .dS l)) := by
  obtain ⟨ob, g, hD⟩ := Heap.dictOf_iff.mp hm
  refine ok.new s.toks (fun b x e => (hs.2 b (Nat.ne_of_lt (Heap.lt_size e))).trans (Heap.get?_push_of_some _ e)) ?_ g (OR.dS' hD kv hz) rfl
  rw [hs.1, Heap.size_push]
  exact Nat.le_succ _
theorem cw_dict_dS (t : Tag) {d : Addr} {t' : Tag} {l : List (Str × AV)} {E' : AV → AHeap → Prop} (hd : H d = some (t', .dS l)) : CallW nf c A H (.type "dict") [.ref d] (fun r H' => ∃ n, H n = none ∧ r = .ref n ∧ H' = upd H n (t, .dS l)) E' := fun W s vs outer ok hA hff hv => by
  cases hv with | cons r1 hv => cases hv with | nil =>
  obtain rfl : _ = Value.ref d := r1
  obtain ⟨kvs, D, kv, z⟩ := ok.dS hd
  have h1 := kv.length
  refine wpN_of (kt_call_dict (c.noMods (ok.own _ _ _ hd).1) D (by rw [sizeLine_eq]; omega) fun h' hm hs => ?_)
  exact ⟨W, _, _, ok.dS_news t hm kv z hs, VR.ref', _, ok.fresh, rfl, rfl⟩
theorem cw_dict_fd (t : Tag) {l : List (Str × Int)} {E' : AV → AHeap → Prop} : CallW nf c A H (.type "dict") [.fd l] (fun r H' => ∃ n, H n = none ∧ r = .ref n ∧ H' = upd H n (t, .dS (l.map fun p => (p.1, .int p.2)))) E' := fun W s vs outer ok hA hff hv => by
  cases hv with | cons r1 hv => cases hv with | nil =>
  obtain ⟨a, rfl, ha⟩ := r1
  obtain ⟨hb, _, ob, g, kvs, D, kv, z⟩ := ok.frz _ _ ha
  have h1 := kv.length
  have h2 : (l.map fun p => (p.1, AV.int p.2)).length ≤ 1000 := by rw [List.length_map]; exact z
  refine wpN_of (kt_call_dict (c.noMods hb) (Heap.dictOf_iff.mpr ⟨ob, g, D⟩) (by rw [sizeLine_eq]; omega) fun h' hm hs => ?_)
  exact ⟨W, _, _, ok.dS_news t hm kv h2 hs, VR.ref', _, ok.fresh, rfl, rfl⟩
theorem cw_dict_dI (t : Tag) {d : Addr} {t' : Tag} {l : List (Int × AV)} {E' : AV → AHeap → Prop} (hd : H d = some (t', .dI l)) : CallW nf c A H (.type "dict") [.ref d] (fun r H' => ∃ n, H n = none ∧ r = .ref n ∧ H' = upd H n (t, .dI l)) E' := fun W s vs outer ok hA hff hv => by
  cases hv with | cons r1 hv => cases hv with | nil =>
  obtain rfl : _ = Value.ref d := r1
  obtain ⟨kvs, D, kv, z⟩ := ok.dI hd
  have h1 := kv.length
  refine wpN_of (kt_call_dict (c.noMods (ok.own _ _ _ hd).1) D (by rw [sizeLine_eq]; omega) fun h' hm hs => ?_)
  obtain ⟨ob, g, hD⟩ := Heap.dictOf_iff.mp hm
  refine ⟨W, _, _, ok.new (t := t) s.toks (fun b x e => (hs.2 b (Nat.ne_of_lt (Heap.lt_size e))).trans (Heap.get?_push_of_some _ e)) ?_ g (OR.dI' hD kv z) rfl, VR.ref', _, ok.fresh, rfl, rfl⟩
  rw [hs.1, Heap.size_push]
  exact Nat.le_succ _

/-! ### what is owned turns frozen -/
theorem Ok.still (ok : Ok c W s H) {a : Addr} {t : Tag} {l : List (Str × Int)} (ha : H a = some (t, .dS (l.map fun p => (p.1, .int p.2)))) : Post c W s H (updW W a (.fd l)) s (Nx.drop H a) := by
  have hW : W a = none := by
    cases q : W a with
    | none => rfl
    | some v => have := (ok.frz _ _ q).2.1; rw [ha] at this; cases this
  have x : Ext W (updW W a (.fd l)) := updW_ext hW
  obtain ⟨hb, ob, g, kvs, D, kv, z⟩ := ok.own _ _ _ ha
  refine ⟨⟨ok.old, ok.stat, ok.os, ok.bare, ok.low, fun b u y hy => ?_, ok.gen.sub fun b u gi P hy => ?_, fun b v hv => ?_⟩, x, fun b ob g _ _ _ => ⟨ob.slots, g⟩, Nat.le_refl _, fun b hb => ?_, fun b hb => ?_⟩
  · by_cases e : b = a
    · subst e; simp [Nx.drop] at hy
    · rw [drop_ne e] at hy
      obtain ⟨h1, ob, h2, h3⟩ := ok.own b u y hy
      exact ⟨h1, ob, h2, h3.mono x⟩
  · by_cases e : b = a
    · subst e; simp [Nx.drop] at hy
    · rw [drop_ne e] at hy; exact hy
  · by_cases e : b = a
    · subst e
      rw [updW_same] at hv; cases hv
      exact ⟨hb, by simp [Nx.drop], ob, g, kvs, D, kv.mono x, by simpa using z⟩
    · have hv' : W b = some v := (if_neg e).symm.trans hv
      obtain ⟨h1, h2, ob', h3, h4⟩ := ok.frz b v hv'
      exact ⟨h1, (drop_ne e).trans h2, ob', h3, h4.mono x⟩
  · by_cases e : b = a
    · subst e; simp [Nx.drop] at hb
    · rw [drop_ne e] at hb; exact .inl hb
  · by_cases e : b = a
    · subst e; exact .inr (.inl (by rw [ha]; exact fun z => nomatch z))
    · rw [show updW W a (.fd l) b = W b from if_neg e] at hb; exact .inl hb
end
end Nx
end
section
set_option autoImplicit false
namespace Nx
section
variable {nf : Bool} {c : Cx} {A : Around} {env : Env} {m : LM} {H : AHeap} {E : AV → LM → AHeap → Prop} {W W' : WM} {s s' : Shared} {H' : AHeap}

/-! ### what is let go -/
theorem drop_none {a b : Addr} (h : H b = none) : Nx.drop H a b = none := by unfold Nx.drop; split <;> trivial
theorem drop_upd {a : Addr} {x : Tag × AObj} (h : H a = none) : Nx.drop (upd H a x) a = H := by
  funext b
  by_cases e : b = a
  · subst e; simp [Nx.drop, h]
  · rw [drop_ne e, upd_ne e]
theorem drop_upd_ne {a b : Addr} {x : Tag × AObj} (h : b ≠ a) : Nx.drop (upd H a x) b = upd (Nx.drop H b) a x := by
  funext d
  by_cases e : d = a
  · subst e; rw [upd_same, drop_ne (Ne.symm h), upd_same]
  · rw [upd_ne e]
    by_cases e2 : d = b
    · subst e2; simp [Nx.drop]
    · rw [drop_ne e2, drop_ne e2, upd_ne e]
theorem upd_upd {a : Addr} {x y : Tag × AObj} : upd (upd H a x) a y = upd H a y := by
  funext b
  by_cases e : b = a
  · subst e; rw [upd_same, upd_same]
  · rw [upd_ne e, upd_ne e, upd_ne e]
theorem upd_swap {a b : Addr} {x y : Tag × AObj} (h : a ≠ b) : upd (upd H a x) b y = upd (upd H b y) a x := by
  funext d
  by_cases e : d = b
  · subst e; rw [upd_same, upd_ne h.symm, upd_same]
  · rw [upd_ne e]
    by_cases e2 : d = a
    · subst e2; rw [upd_same, upd_same]
    · rw [upd_ne e2, upd_ne e2, upd_ne e]
theorem drop_some {a b : Addr} (h : Nx.drop H a b ≠ none) : H b ≠ none := fun e => h (drop_none e)
theorem PostX.undrop {L a : Addr} (p : PostX c L W s (Nx.drop H a) W' s' H') : PostX c L W s H W' s' H' where
  ok := p.ok
  ext := p.ext
  keep := fun b ob hL hb hH hB hd => p.keep b ob hL hb (drop_none hH) hB hd
  size := p.size
  dom := fun b hb => (p.dom b hb).imp drop_some id
  wdom := fun b hb => (p.wdom b hb).imp id (·.imp drop_some id)
theorem Fo.drop (fo : Fo c W s H env A m) (a : Addr) : Fo c W s (Nx.drop H a) env A m := by
  obtain ⟨outer, h1, h2⟩ := fo.ff
  refine ⟨fo.ns, drop_none fo.un, fo.unW, fo.new, ⟨outer, h1, fun e he => ?_⟩, fo.fr⟩
  obtain ⟨k, L, o, a, b, ⟨d, d'⟩, g, n⟩ := h2 e he
  exact ⟨k, L, o, a, b, ⟨drop_none d, d'⟩, g, n⟩
theorem AG.forget {α β : Type} {R : WM → α → β → Prop} {t : Sem α} {Q : β → LM → AHeap → Prop} (a : Addr) (h : AG R nf c A env m (Nx.drop H a) t Q E) : AG R nf c A env m H t Q E := fun W s ok fo =>
  wpN_mono (h W s (ok.drop a) (fo.drop a)) (fun _ _ ⟨W', H', m', y, p, f, r, q⟩ => ⟨W', H', m', y, p.undrop, f, r, q⟩) fun _ _ ⟨W', H', m', y, p, f, r, q⟩ => ⟨W', H', m', y, p.undrop, f, r, q⟩
theorem AS.forget {ss : List Stmt} {Q : AFl → LM → AHeap → Prop} (a : Addr) (h : AS nf c A env m (Nx.drop H a) ss Q E) : AS nf c A env m H ss Q E := .mk (AG.forget a h.ag)
theorem AE.forget {e : Expr} {Q : AV → LM → AHeap → Prop} (a : Addr) (h : AE nf c A env m (Nx.drop H a) e Q E) : AE nf c A env m H e Q E := .mk (AG.forget a h.ag)

/-! ### what is put turns frozen -/
def nums (l : List (Str × Int)) : List (Str × AV) := l.map fun p => (p.1, .int p.2)
theorem SetOk.still {x b : AV} {a : Addr} {t : Tag} {l : List (Str × Int)} {K : AHeap → Prop} (ha : H a = some (t, .dS (nums l))) (h : SetOk c A (Nx.drop H a) x b (.fd l) K) : SetOk c A H x b (.ref a) K := fun W s u i y ok r1 r2 r3 => by
  obtain rfl : y = .ref a := r3
  have p := ok.still ha
  refine wpAny_mono (h _ s u i (.ref a) p.ok (r1.mono p.ext) (r2.mono p.ext) ⟨a, rfl, updW_same⟩) (fun _ s2 ⟨W2, H2, p2, q⟩ => ⟨W2, H2, p.trans p2, q⟩) fun _ _ z => z

/-! ### rows of frozen dicts -/
section
variable {κ : Type} [DecidableEq κ]
def fdR (l : List (κ × List (Str × Int))) : List (κ × AV) := l.map fun p => (p.1, .fd p.2)
theorem look_map {α β : Type} (f : α → β) (l : List (κ × α)) (k : κ) : look (l.map fun p => (p.1, f p.2)) k = (look l k).map f := by
  induction l with
  | nil => rfl
  | cons p r ih =>
    rw [List.map_cons]
    unfold look
    by_cases e : p.1 = k
    · simp [e]
    · simp [e, ih]
theorem put_map {α β : Type} (f : α → β) (l : List (κ × α)) (k : κ) (a : α) : put (l.map fun p => (p.1, f p.2)) k (f a) = (put l k a).map fun p => (p.1, f p.2) := by
  induction l with
  | nil => rfl
  | cons p r ih =>
    rw [List.map_cons]
    unfold put
    by_cases e : p.1 = k
    · simp [e]
    · simp [e, ih]
theorem look_fdR (l : List (κ × List (Str × Int))) (k : κ) : look (fdR l) k = (look l k).map .fd := look_map _ l k
theorem put_fdR (l : List (κ × List (Str × Int))) (k : κ) (v : List (Str × Int)) : put (fdR l) k (.fd v) = fdR (put l k v) := put_map _ l k v
theorem fdR_length (l : List (κ × List (Str × Int))) : (fdR l).length = l.length := List.length_map _
end
theorem look_nums (l : List (Str × Int)) (k : Str) : look (nums l) k = (look l k).map .int := look_map _ l k
theorem put_nums (l : List (Str × Int)) (k : Str) (v : Int) : put (nums l) k (.int v) = nums (put l k v) := put_map _ l k v
theorem nums_length (l : List (Str × Int)) : (nums l).length = l.length := List.length_map _

/-- dicts by nums, and by pairs of nums, seen alike -/
structure RowK (c : Cx) (κ : Type) [DecidableEq κ] where
  ob : List (κ × AV) → AObj
  key : κ → AV
  get : ∀ {nf : Bool} {A : Around} {H : AHeap} {d : Addr} {t : Tag} {l : List (κ × AV)} {k : κ} {v : AV} {E : AV → AHeap → Prop}, A.units + 1 < cLine → H d = some (t, ob l) → CallOk nf c A H (.builtin "dict.get") [.ref d, key k, v] [] (fun r H' => r = (look l k).getD v ∧ H' = H) E
  set : ∀ {A : Around} {H : AHeap} {d : Addr} {t : Tag} {l : List (κ × AV)} {k : κ} {v : AV}, A.units + 1 < cLine → H d = some (t, ob l) → l.length < 1000 → SetOk c A H (.ref d) (key k) v (fun H' => H' = upd H d (t, ob (put l k v)))
  pl : ∀ {H : AHeap} {d : Addr} {t : Tag} {l : List (κ × AV)}, H d = some (t, ob l) → Plainly c H (.ref d) "dict"
def rowI (c : Cx) : RowK c Int := ⟨.dI, .int, fun _ h => call_get_dI h, fun _ h z => set_dI h z, plainly_dI⟩
def rowP (c : Cx) : RowK c (Int × Int) := ⟨.dP, fun k => .tup [.int k.1, .int k.2], fun u h => call_get_dP u h, fun u h z => set_dP u h z, plainly_dP⟩
end
end Nx
end
section
set_option autoImplicit false
namespace Nx
local macro_rules | `(tactic| walk_at "lk") => `(tactic| first | assumption | exact upd_same)
local macro_rules | `(tactic| walk_at "pe") => `(tactic| first
  | exact pe_int | exact pe_str | exact pe_none | exact pe_bool
  | exact pe_name rfl
  | exact pe_glob (by assumption)
  | exact pe_blt (by assumption) (by assumption))
section
variable {nf : Bool} {c : Cx} {A : Around} {H : AHeap}
abbrev sPut := top 18
theorem put_ok {κ : Type} [DecidableEq κ] (R : RowK c κ) {f : Addr} {cdv : Value} (hf : FnIs c f "_law_put" (fpars sPut) (fbody sPut) (fscope sPut) .none .none cdv) (gD : c.mg "dict" = none) (bD : c.mb "dict" = some (.type "dict")) (rm : Rm A 1)
    {d : Addr} {t : Tag} {l : List (κ × List (Str × Int))} {k : κ} {name : Str} {more : Int} (hd : H d = some (t, R.ob (fdR l))) (hz : l.length < 1000) (hz2 : ∀ old, look l k = some old → old.length < 1000) :
    CallOk nf c A H (.ref f) [.ref d, R.key k, .str name, .int more] [] (fun v H' => v = .none ∧ H' = upd H d (t, R.ob (fdR (put l k (put ((look l k).getD []) name more))))) (fun _ _ => False) := by
  refine call_fn (P := fun ab H' => ab = ([("rows", .ref d), ("key", R.key k), ("name", .str name), ("more", .int more)] : List (Str × AV)) ∧ H' = H) hf rfl rm.room ?_ ?_ ?_
  · intro name doc pm an ct W s vs kvs ok h1 h2
    cases h2
    cases h1 with | cons r1 h1 => cases h1 with | cons r2 h1 => cases h1 with | cons r3 h1 => cases h1 with | cons r4 h1 => cases h1 with | nil =>
    rename_i v1 v2 v3 v4
    refine BindsTo.of_eq (binds := [("rows", v1), ("key", v2), ("name", v3), ("more", v4)]) rfl _ _ _ _ ⟨W, H, _, Post.refl ok, ?_, rfl, rfl⟩
    exact .cons ⟨rfl, r1⟩ (.cons ⟨rfl, r2⟩ (.cons ⟨rfl, r3⟩ (.cons ⟨rfl, r4⟩ .nil)))
  · rintro ab H' ⟨rfl, rfl⟩
    rfl
  · rintro L ab H' ⟨rfl, rfl⟩ hL
    have rm' := rm.deeper (envOf "_law_put" (fscope sPut) L f cdv)
    refine as_cons (a1_assignE (ae_callW (by walk_at "pe") con_is keep_type ?_))
    refine al_cons (ae_bmeth F.slot_dict_get F.plainAttrs_dict F.type_dict_get (a := .ref d) (by walk_at "pe") (R.pl hd) ?_)
    refine al_cons (ae_pe (by walk_at "pe") ?_)
    refine al_cons (ae_dict0 default (o := .dS []) rfl fun d0 h0 => al_nil ?_)
    have e0 : d ≠ d0 := fun e => by rw [e, h0] at hd; cases hd
    have hd1 : upd H' d0 (default, .dS []) d = some (t, R.ob (fdR l)) := upd_of e0 hd
    refine CallOk.mono (R.get rm'.unit hd1) ?_ fun _ _ z => z
    rintro v H1 ⟨rfl, rfl⟩
    refine al_nil ?_
    have key : CallW nf c (A.deeper (envOf "_law_put" (fscope sPut) L f cdv)) (upd H' d0 (default, .dS [])) (.type "dict") [(look (fdR l) k).getD (.ref d0)] (fun r H2 => ∃ n, upd H' d0 (default, .dS []) n = none ∧ r = .ref n ∧ H2 = upd (upd H' d0 (default, .dS [])) n (default, .dS (nums ((look l k).getD [])))) (fun _ _ => False) := by
      rw [look_fdR]
      cases q : look l k with
      | none => exact cw_dict_dS default upd_same
      | some old => exact cw_dict_fd default
    refine CallW.mono key ?_ fun _ _ z => z.elim
    rintro v H2 ⟨n, hn, rfl, rfl⟩
    have hnd0 : n ≠ d0 := fun e => by rw [e, upd_same] at hn; cases hn
    have hnd : n ≠ d := fun e => by rw [e, hd1] at hn; cases hn
    refine AS.forget d0 ?_
    rw [drop_upd_ne (Ne.symm hnd0), drop_upd h0]
    have hn' : H' n = none := by rw [upd_ne hnd0] at hn; exact hn
    have hzz : ((look l k).getD []).length < 1000 := by
      cases q : look l k with
      | none => decide
      | some old => exact hz2 _ q
    refine as_cons (a1_setE (ae_pe (v := .int more) (by walk_at "pe") ⟨.ref n, .str name, by walk_at "pe", by walk_at "pe", ?_⟩))
    refine SetOk.mono (set_dS (l := nums ((look l k).getD [])) upd_same (by rw [nums_length]; exact hzz)) ?_
    rintro H3 rfl
    rw [upd_upd, put_nums]
    refine as_cons (a1_setE (ae_pe (v := .ref n) (by walk_at "pe") ⟨.ref d, R.key k, by walk_at "pe", by walk_at "pe", SetOk.still upd_same ?_⟩))
    rw [drop_upd hn']
    refine SetOk.mono (R.set rm'.unit hd (by rw [fdR_length]; exact hz)) ?_
    rintro H4 rfl
    rw [put_fdR]
    exact as_nil ⟨rfl, rfl⟩
end
end Nx
end
section
set_option autoImplicit false
namespace Nx
section
variable {nf : Bool} {c : Cx} {A : Around} {env : Env} {m : LM} {H : AHeap} {W W' : WM} {s s' : Shared} {H' : AHeap}

/-! ### keywords that no parameter names -/
theorem OR.dS'' {es : Array DictEntry} {ep : Nat} {kvs : List (Str × Value)} {l : List (Str × AV)} (hk : KeysOf (strKind c.prog c.w) es) (hp : Pairs (strKind c.prog c.w) es.toList kvs)
    (hn : (kvs.map (·.1)).Nodup) (r : KV W kvs l) (z : l.length ≤ 1000) : OR c W { cls := .type "dict", dict := none, data := .dict es ep, slots := #[] } (.dS l) := ⟨kvs, ⟨es, ep, ⟨rfl, rfl, rfl⟩, rfl, hk, hp, hn⟩, r, z⟩
theorem kw_set {d : Addr} {t : Tag} {l : List (Str × AV)} {name : Str} {v : Value} {a : AV} {Q : Unit → Shared → Prop} {E : Value → Shared → Prop} (ok : Ok c W s H) (hd : H d = some (t, .dS l)) (r : VR W v a) (hz : l.length < 1000)
    (h : ∀ s', Post c W s H W s' (upd H d (t, .dS (put l name a))) → Q () s') : wpAny c.M A (nsSet d name v) Q E s := by
  obtain ⟨ob, g, kvs, ⟨es, ep, ⟨h1, h2, h4⟩, h3, hk, hp, hn⟩, kv, _⟩ := ok.get hd
  have hrk : (!es.any (·.key.isStr name) && es.any (·.refKey)) = false := by
    have : es.any (·.refKey) = false := by
      rw [Array.any_eq_false']; intro e he
      obtain ⟨k, t, hkk⟩ := strKeys_of hk e he
      simp [DictEntry.refKey, hkk]
    rw [this, Bool.and_false]
  unfold nsSet
  refine wpAny_bind (wpAny_bind (wpAny_askSetting (wpAny_pure (wpAny_bind (wpAny_mkText (wpAny_bind (wpAny_loadPart g ?_)))))))
  rw [h3]
  dsimp only
  rw [aRefKeyMayBeTheName_at, hrk]
  refine wpAny_updatePart g (h _ ?_)
  obtain ⟨p1, p2, p3⟩ := nS_put (c := c) (tk := s.toks) (v := v) (name := name) hk hp hn
  have eis : (fun e : DictEntry => e.key.isStr name) = fun e => (strKind c.prog c.w).is name e.key := by funext e; exact (isStr_of name e.key).symm
  have kv' := kv.stored hn (k := name) r
  have hz' := Nat.le_trans (put_length l name a) hz
  obtain ⟨oc, od, dt, sl⟩ := ob
  dsimp only at h1 h2 h3 h4
  subst h1 h2 h3 h4
  cases hi : es.findIdx? (·.key.isStr name) with
  | some i =>
    have q := p1 i (by rw [← eis]; exact hi)
    refine ok.upd (s.toks + 1) hd (.update ..) (Heap.get?_update_self _ g (by simp only [Obj.putName_eq, Obj.putNameByArray, hi]; rfl)) ?_ rfl
    simp only [Obj.putName_eq, Obj.putNameByArray, hi]
    exact OR.dS'' q.1 q.2 p3 kv' hz'
  | none =>
    have q := p2 (by rw [← eis]; exact hi)
    refine ok.upd (s.toks + 1) hd (.update ..) (Heap.get?_update_self _ g (by simp only [Obj.putName_eq, Obj.putNameByArray, hi]; rfl)) ?_ rfl
    simp only [Obj.putName_eq, Obj.putNameByArray, hi]
    exact OR.dS'' q.1 q.2 p3 kv' hz'
abbrev kwTree (ex : List (Str × Value)) (front : List (Str × Value)) (nm : Str) : Sem (List (Str × Value)) :=
  alloc { cls := .type "dict", data := .dict #[] } >>= fun d => forIn ex PUnit.unit (fun x _ => (nsSet d x.1 x.2 >>= fun _ => pure (ForInStep.yield PUnit.unit))) >>= fun _ => pure (front ++ [(nm, Value.ref d)])
theorem KV.cat {κ : Type} {l1 l2 : List (κ × Value)} {m1 m2 : List (κ × AV)} (a : KV W l1 m1) (b : KV W l2 m2) : KV W (l1 ++ l2) (m1 ++ m2) := by
  unfold KV at *
  induction a with
  | nil => exact b
  | cons x _ ih => exact .cons x ih
theorem kw_bind (t : Tag) {ex front : List (Str × Value)} {exA frontA : List (Str × AV)} {nm : Str} {Q : List (Str × Value) → Shared → Prop} {E : Value → Shared → Prop} (ok : Ok c W s H) (hx : KV W ex exA) (hf : KV W front frontA) (hz : exA.length < 1000)
    (h : ∀ d bs s', H d = none → Post c W s H W s' (upd H d (t, .dS (mergeA [] exA))) → KV W bs (frontA ++ [(nm, .ref d)]) → Q bs s') : wpAny c.M A (kwTree ex front nm) Q E s := by
  refine wpAny_bind (wpAny_alloc ?_)
  have p := ok.alloc (t := t) (o := .dS []) s.toks (or_noEntries (c := c) (W := W) (o := .dS []) rfl).1 rfl rfl
  have go : ∀ (ex : List (Str × Value)) (exA : List (Str × AV)) (l : List (Str × AV)) (s1 : Shared), KV W ex exA → l.length + exA.length < 1000 → Post c W s H W s1 (upd H s.heap.objs.size (t, .dS l)) →
      wpAny c.M A (forIn ex PUnit.unit (fun x _ => (nsSet s.heap.objs.size x.1 x.2 >>= fun _ => pure (ForInStep.yield PUnit.unit)))) (fun _ s' => Post c W s H W s' (upd H s.heap.objs.size (t, .dS (mergeA l exA)))) E s1 := by
    intro ex
    induction ex with
    | nil =>
      intro exA l s1 hk hz p
      cases hk
      rw [List.forIn_nil]
      exact wpAny_pure p
    | cons x r ih =>
      intro exA l s1 hk hz p
      unfold KV at hk
      cases hk with | cons r1 hk =>
      rename_i y ys
      rw [List.forIn_cons]
      have hlen : l.length + (ys.length + 1) < 1000 := hz
      refine wpAny_bind (wpAny_bind (kw_set p.ok upd_same r1.2 (by omega) fun s2 p2 => wpAny_pure ?_))
      rw [upd_upd] at p2
      have h2 := put_length l x.1 y.2
      have := ih ys (put l x.1 y.2) s2 hk (by omega) (p.trans p2)
      rw [show mergeA l (y :: ys) = mergeA (put l x.1 y.2) ys by show mergeA (put l y.1 y.2) ys = _; rw [r1.1]]
      exact this
  refine wpAny_bind (wpAny_mono (go ex exA [] _ hx (by simpa using hz) p) (fun _ s2 p2 => wpAny_pure ?_) fun _ _ z => z)
  exact h _ _ _ ok.fresh p2 (hf.cat (.cons ⟨rfl, VR.ref'⟩ .nil))
theorem kw_of_eq {fd : FuncData} {args : Args} {ex front : List (Str × Value)} {nm : Str} {Q : List (Str × Value) → Shared → Prop} {E : Value → Shared → Prop} (h : bindArgs fd args = kwTree ex front nm) (k : wpAny c.M A (kwTree ex front nm) Q E s) : wpAny c.M A (bindArgs fd args) Q E s := by rw [h]; exact k
theorem kw_of_defaults {fd : FuncData} {args : Args} {ex front : List (Str × Value)} {nm : Str} {T : Addr} {o : Obj} {items : Array Value} {n : Nat} {k : Option (Array Value) → Sem (List (Str × Value))} {Q : List (Str × Value) → Shared → Prop} {E : Value → Shared → Prop}
    (hd : fd.defaults = .ref T) (ho : s.heap.get? T = some o) (hs : o.data = .seq items n) (h₁ : bindArgs fd args = seqItems? fd.defaults >>= k) (h₂ : k (some items) = kwTree ex front nm) (h : wpAny c.M A (kwTree ex front nm) Q E s) : wpAny c.M A (bindArgs fd args) Q E s := by
  rw [h₁, hd]
  exact wpAny_bind (wpAny_seqItems ho hs (by rw [h₂]; exact h))
end
end Nx
end
section
set_option autoImplicit false
namespace Nx
section
variable {nf : Bool} {c : Cx} {A : Around} {H : AHeap}
abbrev gB (n : Nat) : Stmt := pick (fbody (top 12)) n
abbrev dB (n : Nat) : Stmt := pick (fbody (top 14)) n
example (cdv : Value) (a b : Value) (name doc pm an ct) : bindArgs (fnOf name "Graph.add_nodes_from" (fpars (gB 14)) (fbody (gB 14)) (fscope (gB 14)) .none .none doc pm an cdv ct) ⟨[a, b], []⟩ = kwTree [] [("self", a), ("nodes_for_adding", b)] "attr" := rfl
example (cdv : Value) (a b v : Value) (name doc pm an ct) : bindArgs (fnOf name "Graph.add_nodes_from" (fpars (gB 14)) (fbody (gB 14)) (fscope (gB 14)) .none .none doc pm an cdv ct) ⟨[a, b], [("y", v)]⟩ = kwTree [("y", v)] [("self", a), ("nodes_for_adding", b)] "attr" := rfl
end
end Nx
end
section
set_option autoImplicit false
namespace Nx
theorem lookup_dict_hash : typeLookup (.type "dict") "__hash__" = pure (some .none) := by rw [typeLookup_type, builtinLookup_eq_fast]; kernel_rfl
section
variable {prog : Program} {w : World} {A : Around} {E : Value → Shared → Prop} {s : Shared}
def Raises (E : Value → Shared → Prop) (s : Shared) (cls : String) : Prop := ∀ h' e n, Heap.NewExc s.heap h' e cls → E (.ref e) { s with heap := h', toks := n }
theorem hash_dict_raises {d : Addr} {Q : Int → Shared → Prop} (hT : s.TypeIs (.ref d) "dict") (hh : A.handled = none) (hu : A.units < cLine) (h : Raises E s "TypeError") : wpAny (model prog w) A (pyHash (.ref d)) Q E s := by
  unfold pyHash
  unfold pyHashByItsType
  refine wpAny_bind (wpAny_cRoomFor_or (.inr hu) ?_)
  refine wpAny_bind (wpAny_specialOf hT lookup_dict_hash ?_)
  show wpAny _ _ (if (some Value.none == some Value.none) = true then _ else _) Q E s
  rw [if_pos (by rfl)]
  refine wpAny_bind (wpAny_rule ?_)
  refine wpAny_bind (wpAny_typeNameOf' hT (by decide) ?_)
  refine wpAny_bind ?_
  exact wpAny_raiseErrorMade plainExc_TypeError hh (fun h' tk e x => h h' e tk x) (by rw [sizeLine_eq]; decide +kernel)
/-- the hash of a tuple of an int and a dict -/
theorem hash_row_raises {a d : Addr} {k : Int} {tk : Tok} {n : Nat} {Q : Int → Shared → Prop} (ha : s.heap.get? a = some { cls := .type "tuple", data := .seq #[.int k tk, .ref d] n }) (hT : ∀ n, ({ s with toks := n } : Shared).TypeIs (.ref d) "dict") (hh : A.handled = none) (hu : A.units + 1 < cLine) (h : Raises E s "TypeError") : wpAny (model prog w) A (pyHash (.ref a)) Q E s := by
  have hTa : s.TypeIs (.ref a) "tuple" := ⟨_, ha, rfl⟩
  unfold pyHash
  unfold pyHashByItsType
  refine wpAny_bind (wpAny_cRoomFor_or (.inr (by omega)) ?_)
  refine wpAny_bind (wpAny_specialOf hTa F.slot_tuple_hash.lookup ?_)
  show wpAny _ _ (if (some (Value.builtin "tuple.__hash__") == some Value.none) = true then _ else _) Q E s
  rw [if_neg (by rw [beq_builtin_none]; exact Bool.false_ne_true)]
  refine wpAny_bind (wpAny_specialOf hTa F.slot_tuple_hash.lookup ?_)
  show wpAny _ _ (callSpecialIfBoundUnlessNone? (.ref a) "__hash__" _ >>= _) Q E s
  refine wpAny_bind (wpAny_callSpecialIfBoundUnlessNone?_slot hTa F.slot_tuple_hash (wpAny_call_entry F.slot_tuple_hash hTa F.entry_tuple_hash ?_ (F.args_tuple_hash_1 _)))
  show wpAny _ _ (Builtin.Tuple.tupleItemsOf (.ref a) >>= _) _ _ s
  refine wpAny_bind (wpAny_tupleItemsOf ha rfl ?_)
  refine wpAny_bind ?_
  rw [← Array.forIn_toList]
  show wpAny _ _ (forIn [Value.int k tk, .ref d] _ _) _ _ _
  rw [List.forIn_cons]
  refine wpAny_bind (wpAny_bind (wpAny_pyHash_int ?_))
  first
    | refine wpAny_pure ?_
    | refine wpAny_bind (wpAny_pure (wpAny_pure ?_))
  show wpAny _ _ (forIn [Value.ref d] _ _) _ _ _
  rw [List.forIn_cons]
  refine wpAny_bind (wpAny_bind (hash_dict_raises (hT _) hh (by exact hu) ?_))
  exact fun h' e n x => h h' e n x
theorem notIn_row_raises {a d o : Addr} {k : Int} {tk : Tok} {n : Nat} {K : Type} [DecidableEq K] {knd : KeyKind prog w K} {kvs : List (K × Value)} {Q : Value → Shared → Prop} (ha : s.heap.get? a = some { cls := .type "tuple", data := .seq #[.int k tk, .ref d] n }) (hT : ∀ n, ({ s with toks := n } : Shared).TypeIs (.ref d) "dict") (hm : s.heap.DictOf knd o kvs)
    (hh : A.handled = none) (hu : A.units + 2 < cLine) (h : Raises E s "TypeError") : wpAny (model prog w) A (compareOp .NotIn (.ref a) (.ref o)) Q E s := by
  have hmT := hm.mapOf.typeIs
  show wpAny _ _ (do return .bool (!(← contains (.ref o) (.ref a)))) Q E s
  refine wpAny_bind ?_
  unfold contains
  try with_reducible refine wpAny_holding ?_
  refine wpAny_bind (wpAny_specialOf hmT slot_dict_contains.lookup ?_)
  show wpAny _ _ (if (some (Value.builtin "dict.__contains__") == some Value.none) = true then _ else _) _ E s
  rw [if_neg (by rw [beq_builtin_none]; exact Bool.false_ne_true)]
  refine wpAny_bind (wpAny_callSpecialUnlessNone?_slot (name := Str.ofString "__contains__") hmT slot_dict_contains
    (wpAny_call_entry slot_dict_contains hmT entry_dict_contains ?_ (args_dict_contains _ _)))
  show wpAny _ _ (dictGet o (.ref a) >>= _) _ _ s
  refine wpAny_bind ?_
  unfold dictGet
  refine wpAny_holding (wpAny_bind (hash_row_raises (E := E) ha hT hh (by exact hu) h))
end
section
variable {nf : Bool} {c : Cx} {A : Around} {env : Env} {m : LM} {H : AHeap} {E : AV → LM → AHeap → Prop} {W : WM} {s : Shared}

/-! ### what raises -/
/-- a comparison's value, the sides pure -/
theorem ae_cmp {l r : Expr} {op : CmpOp} {pos : Pos} {a b : AV} {Q : AV → LM → AHeap → Prop} (hl : PE c A env m H l a) (hr : PE c A env m H r b)
    (h : ∀ W s u x, Ok c W s H → VR W u a → VR W x b → wpAny c.M A (compareOp op u x) (fun y s' => ∃ W' H' v, Post c W s H W' s' H' ∧ VR W' y v ∧ Q v m H') (fun y s' => ∃ W' H' v, Post c W s H W' s' H' ∧ VR W' y v ∧ E v m H') s) (hm : behindInMarks op r = false := by rfl) :
    AE nf c A env m H (.Compare l [op] [r] pos) Q E := .mk fun W s ok fo =>
  wpN_of <| wpAny_Compare1 (hl.run ok fo fun W1 s1 u p1 f1 r1 => hr.run p1.ok f1 fun W2 s2 x p2 f2 r2 => wpAny_mono (h W2 s2 u x p2.ok (r1.mono p2.ext) r2) (fun y s3 ⟨W3, H3, v, p3, r3, q⟩ => ⟨W3, H3, m, v, ((p1.trans p2).trans p3).x _, f2.keep p3, r3, q⟩) fun y s3 ⟨W3, H3, v, p3, r3, q⟩ => ⟨W3, H3, m, v, ((p1.trans p2).trans p3).x _, f2.keep p3, r3, q⟩) hm
theorem raises_new {E : Value → Shared → Prop} {cls : String} (ok : Ok c W s H) (h : ∀ e s' H', Post c W s H W s' H' → ExcNew H' e (.type cls) .none → Keeps H H' → E (.ref e) s') : Raises (fun y s' => Ge s s' → E y s') s cls := fun h' e n x g => by
  obtain ⟨H', p, x', k⟩ := exc_new ok x g
  exact h e _ H' p x' k
theorem ae_notIn_row {l r : Expr} {pos : Pos} {k : Int} {d o : Addr} {t t' : Tag} {l1 : List (Str × AV)} {l2 : List (Int × AV)} {Q : AV → LM → AHeap → Prop} (hl : PE c A env m H l (.tup [.int k, .ref d])) (hr : PE c A env m H r (.ref o)) (hd : H d = some (t, .dS l1)) (ho : H o = some (t', .dI l2)) (hh : A.handled = none) (hu : A.units + 2 < cLine)
    (q : ∀ e H', ExcNew H' e (.type "TypeError") .none → Keeps H H' → E (.ref e) m H') (hm : behindInMarks .NotIn r = false := by rfl) : AE nf c A env m H (.Compare l [.NotIn] [r] pos) Q E := ae_cmp hl hr (fun W s u x ok r1 r2 => by
  obtain ⟨a, rfl, ha⟩ := r1
  obtain rfl : x = .ref o := r2
  obtain ⟨_, _, ob, g, vs, n, rfl, rr⟩ := ok.frz _ _ ha
  cases rr with | cons r1 rr => cases rr with | cons r2 rr => cases rr with | nil =>
  obtain ⟨tk, rfl⟩ := r1
  obtain rfl : _ = Value.ref d := r2
  obtain ⟨kvs, D, _⟩ := ok.dS hd
  obtain ⟨kvs', D', _⟩ := ok.dI ho
  obtain ⟨⟨od, gd, hc⟩, _⟩ := plainly_dict D
  refine wpAny_ge (wpAny_mono (notIn_row_raises (Q := fun _ _ => False) g (fun n => ⟨od, gd, hc⟩) D' hh hu (raises_new ok fun e s' H' p x k => ?_)) (fun _ _ z => z.elim) fun _ _ z => z)
  exact ⟨W, H', .ref e, p, VR.ref', q e H' x k⟩) hm
theorem ae_sub_miss {value slice : Expr} {pos : Pos} {k : Int} {o : Addr} {t : Tag} {l : List (Int × AV)} {Q : AV → LM → AHeap → Prop} (hv : PE c A env m H value (.ref o)) (hs : PE c A env m H slice (.int k)) (ho : H o = some (t, .dI l)) (hl : look l k = none) (hh : A.handled = none) (hp : plainIdx slice = true)
    (q : ∀ e H', ExcNew H' e (.type "KeyError") .none → Keeps H H' → E (.ref e) m H') : AE nf c A env m H (.Subscript value slice pos) Q E := ae_sub (ae_pe hv ⟨_, hs, fun W s u x ok fo r1 r2 => by
  obtain rfl : u = .ref o := r1
  obtain ⟨tk, rfl⟩ := r2
  obtain ⟨kvs, D, kv, _⟩ := ok.dI ho
  have z := kv.look k
  rw [hl] at z
  refine wpN_of (wpAny_ge (wpAny_mono (Q := fun _ _ => False) (tail_type D.mapOf.typeIs slot_dict_getitem (wpAny_getItem_missing_of (intKind_is _ _ _ _) (c.noMods (ok.own _ _ _ ho).1) hh D.mapOf z.none fun h' e x => ?_) (subscripted_plain hp _ _)) (fun _ _ z => z.elim) fun _ _ z => z))
  intro g
  obtain ⟨H', p, x', k⟩ := exc_new ok x g
  exact ⟨W, H', m, .ref e, p.x _, fo.keep p, VR.ref', q e H' x' k⟩⟩)
end
end Nx
end
section
set_option autoImplicit false
namespace Nx

/-! ### heaps told by tags -/
abbrev Loc := Tag → Addr
abbrev Want := Tag → Option AObj
def At (loc : Loc) (want : Want) (H : AHeap) : Prop := ∀ t o, want t = some o → H (loc t) = some (t, o)
def wset (want : Want) (t : Tag) (o : AObj) : Want := fun t' => if t' = t then some o else want t'
def lset (loc : Loc) (t : Tag) (a : Addr) : Loc := fun t' => if t' = t then a else loc t'
theorem wset_same {want : Want} {t : Tag} {o : AObj} : wset want t o t = some o := if_pos rfl
theorem wset_ne {want : Want} {t t' : Tag} {o : AObj} (h : t' ≠ t) : wset want t o t' = want t' := if_neg h
theorem lset_same {loc : Loc} {t : Tag} {a : Addr} : lset loc t a t = a := if_pos rfl
theorem lset_ne {loc : Loc} {t t' : Tag} {a : Addr} (h : t' ≠ t) : lset loc t a t' = loc t' := if_neg h
section
variable {loc : Loc} {want : Want} {H H' : AHeap}
theorem At.upd (h : At loc want H) {t : Tag} (o' : AObj) (ht : want t ≠ none) : At loc (wset want t o') (Nx.upd H (loc t) (t, o')) := fun t' o hw => by
  cases q : want t with
  | none => exact absurd q ht
  | some o0 =>
    have h0 := h t o0 q
    by_cases e : t' = t
    · subst e; rw [wset_same] at hw; cases hw; exact upd_same
    · rw [wset_ne e] at hw
      have h1 := h t' o hw
      refine upd_of (fun q => e ?_) h1
      rw [q, h0] at h1
      cases h1; rfl
theorem At.new (h : At loc want H) {t : Tag} {a : Addr} (o : AObj) (ha : H a = none) (ht : want t = none) : At (lset loc t a) (wset want t o) (Nx.upd H a (t, o)) := fun t' o' hw => by
  by_cases e : t' = t
  · subst e; rw [wset_same] at hw; cases hw; rw [lset_same]; exact upd_same
  · rw [wset_ne e] at hw
    have h1 := h t' o' hw
    rw [lset_ne e]
    exact upd_of (fun q => by rw [q, ha] at h1; cases h1) h1
theorem At.weak (h : At loc want H) {w' : Want} (k : ∀ t o, w' t = some o → want t = some o) : At loc w' H := fun t o hw => h t o (k t o hw)
theorem At.drop (h : At loc want H) {a : Addr} (ha : ∀ t, want t ≠ none → loc t ≠ a) : At loc want (Nx.drop H a) := fun t o hw => (drop_ne (ha t (by rw [hw]; exact fun z => nomatch z))).trans (h t o hw)

/-- what is not the graph's stands -/
def Frame (gid : Nat) (H H' : AHeap) : Prop := ∀ b t o, H b = some (t, o) → t.own ≠ gid → t.own ≠ xo → H' b = some (t, o)
theorem Frame.refl (gid : Nat) (H : AHeap) : Frame gid H H := fun _ _ _ h _ _ => h
theorem Frame.trans {gid : Nat} {H'' : AHeap} (x : Frame gid H H') (y : Frame gid H' H'') : Frame gid H H'' := fun b t o h n1 n2 => y b t o (x b t o h n1 n2) n1 n2
theorem Frame.upd {gid : Nat} {a : Addr} {x : Tag × AObj} (h : ∀ t o, H a = some (t, o) → t.own = gid) : Frame gid H (Nx.upd H a x) := fun b t o hb n _ => upd_of (fun e => n (h t o (e ▸ hb))) hb
theorem Frame.new {gid : Nat} {a : Addr} {x : Tag × AObj} (h : H a = none) : Frame gid H (Nx.upd H a x) := Frame.upd fun t o q => by rw [h] at q; cases q
theorem Frame.keeps {gid : Nat} (k : Keeps H H') : Frame gid H H' := fun b t o hb _ n => k b t o hb n
theorem At.frame (h : At loc want H) {gid : Nat} (f : Frame gid H H') (hn : ∀ t, want t ≠ none → t.own ≠ gid ∧ t.own ≠ xo) : At loc want H' := fun t o hw =>
  have z := hn t (by rw [hw]; exact fun z => nomatch z)
  f _ _ _ (h t o hw) z.1 z.2
theorem At.keeps (h : At loc want H) (k : Keeps H H') (hn : ∀ t, want t ≠ none → t.own ≠ xo) : At loc want H' := fun t o hw => k _ _ _ (h t o hw) (hn t (by rw [hw]; exact fun z => nomatch z))
theorem Frame.at {gid : Nat} {H : AHeap} (h : At loc want H) {t : Tag} {x : Tag × AObj} (ht : want t ≠ none) (hg : t.own = gid) : Frame gid H (Nx.upd H (loc t) x) := Frame.upd fun t' o q => by
  cases e : want t with
  | none => exact absurd e ht
  | some o' =>
    have := h t o' e
    rw [q] at this
    cases this
    exact hg
end

/-! ### a graph, and what it holds -/
structure GC where
  whole : List (Str × Int)
  nodes : List (Int × List (Str × Int))
  adj : Int → List Int
  prd : Int → List Int
  eg : Int × Int → Option (List (Str × Int))
def ek (dir : Bool) (u v : Int) : Int × Int := if dir then (u, v) else (min u v, max u v)
abbrev tX (gid : Nat) : Tag := ⟨gid, 0, []⟩
abbrev tD (gid : Nat) : Tag := ⟨gid, 1, []⟩
abbrev tG (gid : Nat) : Tag := ⟨gid, 2, []⟩
abbrev tN (gid : Nat) : Tag := ⟨gid, 3, []⟩
abbrev tA (gid : Nat) : Tag := ⟨gid, 4, []⟩
abbrev tP (gid : Nat) : Tag := ⟨gid, 5, []⟩
abbrev tNd (gid : Nat) (n : Int) : Tag := ⟨gid, 6, [n]⟩
abbrev tAd (gid : Nat) (n : Int) : Tag := ⟨gid, 7, [n]⟩
abbrev tPd (gid : Nat) (n : Int) : Tag := ⟨gid, 8, [n]⟩
abbrev tEd (gid : Nat) (k : Int × Int) : Tag := ⟨gid, 9, [k.1, k.2]⟩
def refs (f : Int → Addr) (l : List Int) : List (Int × AV) := l.map fun n => (n, .ref (f n))
def GC.keys (g : GC) : List Int := g.nodes.map (·.1)
def wantG (gid : Nat) (dir : Bool) (C : Addr) (loc : Loc) (mm : List (Str × AV)) (g : GC) : Want := fun t =>
  if t.own = gid then
    match t.role, t.key with
    | 0, [] => some (.inst C (loc (tD gid)))
    | 1, [] => some (.nS mm)
    | 2, [] => some (.dS (nums g.whole))
    | 3, [] => some (.dI (refs (fun n => loc (tNd gid n)) g.keys))
    | 4, [] => some (.dI (refs (fun n => loc (tAd gid n)) g.keys))
    | 5, [] => if dir then some (.dI (refs (fun n => loc (tPd gid n)) g.keys)) else none
    | 6, [n] => (look g.nodes n).map fun a => .dS (nums a)
    | 7, [n] => if (look g.nodes n).isSome then some (.dI (refs (fun v => loc (tEd gid (ek dir n v))) (g.adj n))) else none
    | 8, [n] => if dir && (look g.nodes n).isSome then some (.dI (refs (fun u => loc (tEd gid (u, n))) (g.prd n))) else none
    | 9, [a, b] => (g.eg (a, b)).map fun a => .dS (nums a)
    | _, _ => none
  else none
end Nx
end
section
set_option autoImplicit false
namespace Nx

def Small (a : List (Str × Int)) : Prop := (a.map (·.1)).Nodup ∧ ∀ k ∈ a.map (·.1), k = ("w" : Str) ∨ k = ("x" : Str) ∨ k = ("y" : Str)
/-- names that the law uses -/
def SmK (a : List (Str × Int)) : Prop := ∀ k ∈ a.map (·.1), k = ("w" : Str) ∨ k = ("x" : Str) ∨ k = ("y" : Str)
structure Wf (dir : Bool) (g : GC) : Prop where
  nod : g.keys.Nodup
  rng : ∀ n ∈ g.keys, 0 ≤ n ∧ n < 5
  adjn : ∀ u, (g.adj u).Nodup
  adjI : ∀ u v, v ∈ g.adj u ↔ (g.eg (ek dir u v)).isSome = true
  prdn : dir = true → ∀ u, (g.prd u).Nodup
  prdI : dir = true → ∀ u v, u ∈ g.prd v ↔ (g.eg (u, v)).isSome = true
  egk : ∀ k, (g.eg k).isSome = true → k.1 ∈ g.keys ∧ k.2 ∈ g.keys
  egc : ∀ k, (g.eg k).isSome = true → dir = false → k.1 ≤ k.2
  smN : ∀ n a, look g.nodes n = some a → Small a
  smE : ∀ k a, g.eg k = some a → Small a
  smW : Small g.whole

section
variable {κ : Type} [DecidableEq κ] {α : Type}
theorem look_append {l : List (κ × α)} {k j : κ} {a : α} : look (l ++ [(k, a)]) j = match look l j with | some x => some x | none => if k = j then some a else none := by
  induction l with
  | nil => simp [look]
  | cons p r ih =>
    rw [List.cons_append]
    unfold look
    by_cases e : p.1 = j
    · simp [e]
    · simp [e, ih]
theorem look_isSome {l : List (κ × α)} {k : κ} : (look l k).isSome = true ↔ k ∈ l.map (·.1) := by
  have := look_none (l := l) (k := k)
  cases q : look l k with
  | none => rw [q] at this; simpa using this.mp rfl
  | some a =>
    rw [q] at this
    simp only [Option.isSome_some, true_iff]
    by_cases e : k ∈ l.map (·.1)
    · exact e
    · exact absurd (this.mpr e) (by simp)
theorem length_le_of_sub {l s : List κ} (hn : l.Nodup) (h : ∀ x ∈ l, x ∈ s) : l.length ≤ s.length := by
  induction l generalizing s with
  | nil => exact Nat.zero_le _
  | cons a r ih =>
    obtain ⟨h1, h2⟩ := List.nodup_cons.mp hn
    have ha := h a (.head _)
    have hr : ∀ x ∈ r, x ∈ s.erase a := fun x hx => (List.mem_erase_of_ne (fun (e : x = a) => h1 (e ▸ hx))).mpr (h x (.tail _ hx))
    have := ih h2 hr
    rw [List.length_erase_of_mem ha] at this
    have hp : 0 < s.length := List.length_pos_of_mem ha
    simp only [List.length_cons]
    omega
end
theorem Small.length {a : List (Str × Int)} (h : Small a) : a.length ≤ 3 := by
  have := length_le_of_sub (s := [("w" : Str), "x", "y"]) h.1 (fun x hx => by simpa using h.2 x hx)
  simpa using this
theorem Small.nil : Small [] := ⟨.nil, fun _ h => nomatch h⟩
theorem keys_put {κ : Type} [DecidableEq κ] {α : Type} {l : List (κ × α)} {k : κ} {a : α} {x : κ} (h : x ∈ (put l k a).map (·.1)) : x ∈ l.map (·.1) ∨ x = k := by
  by_cases q : look l k = none
  · rw [put_new a q, List.map_append] at h
    simpa using h
  · rw [put_keys_old a q] at h; exact .inl h
theorem Small.put {a : List (Str × Int)} (h : Small a) {k : Str} (hk : k = ("w" : Str) ∨ k = ("x" : Str) ∨ k = ("y" : Str)) (v : Int) : Small (Nx.put a k v) :=
  ⟨put_nodup _ _ h.1, fun x hx => (keys_put hx).elim (h.2 x) fun e => e ▸ hk⟩
theorem Small.merge {a b : List (Str × Int)} (h : Small a) (hb : SmK b) : Small (mergeA a b) := by
  have go : ∀ (b a : List (Str × Int)), Small a → (∀ k ∈ b.map (·.1), k = ("w" : Str) ∨ k = ("x" : Str) ∨ k = ("y" : Str)) → Small (mergeA a b) := by
    intro b
    induction b with
    | nil => intro a h _; exact h
    | cons p r ih => intro a h hb; exact ih _ (h.put (hb _ (.head _)) p.2) fun k hk => hb k (.tail _ hk)
  exact go b a h hb
theorem merge_nums (a b : List (Str × Int)) : mergeA (nums a) (nums b) = nums (mergeA a b) := by
  induction b generalizing a with
  | nil => rfl
  | cons p r ih =>
    show mergeA (put (nums a) p.1 (.int p.2)) (nums r) = nums (mergeA (put a p.1 p.2) r)
    rw [put_nums]
    exact ih _
theorem Wf.count {dir : Bool} {g : GC} (h : Wf dir g) : g.keys.length ≤ 5 := by
  have := length_le_of_sub (s := [0, 1, 2, 3, 4]) h.nod (fun x hx => by have := h.rng x hx; simp; omega)
  simpa using this
theorem Wf.adjk {dir : Bool} {g : GC} (h : Wf dir g) {u v : Int} (hv : v ∈ g.adj u) : u ∈ g.keys ∧ v ∈ g.keys := by
  have := h.egk _ ((h.adjI u v).mp hv)
  cases dir with
  | true => exact this
  | false =>
    simp only [ek, Bool.false_eq_true, if_false] at this
    rcases Int.le_total u v with z | z
    · rw [Int.min_eq_left z, Int.max_eq_right z] at this; exact this
    · rw [Int.min_eq_right z, Int.max_eq_left z] at this; exact this.symm
theorem Wf.adjc {dir : Bool} {g : GC} (h : Wf dir g) (u : Int) : (g.adj u).length ≤ 5 :=
  Nat.le_trans (length_le_of_sub (s := g.keys) (h.adjn u) fun _ hx => (h.adjk hx).2) h.count
theorem Wf.prdc {dir : Bool} {g : GC} (h : Wf dir g) (hd : dir = true) (u : Int) : (g.prd u).length ≤ 5 :=
  Nat.le_trans (length_le_of_sub (s := g.keys) (h.prdn hd u) fun x hx => (h.egk _ ((h.prdI hd x u).mp hx)).1) h.count

/-! ### a vertex comes -/
def GC.node (g : GC) (n : Int) : GC := if (look g.nodes n).isSome then g else { g with nodes := g.nodes ++ [(n, [])] }
theorem GC.node_old {g : GC} {n : Int} (h : (look g.nodes n).isSome = true) : g.node n = g := if_pos h
theorem GC.node_new {g : GC} {n : Int} (h : look g.nodes n = none) : g.node n = { g with nodes := g.nodes ++ [(n, [])] } := by unfold GC.node; rw [h]; rfl
theorem GC.mem_node {g : GC} {n : Int} : n ∈ (g.node n).keys := by
  cases q : look g.nodes n with
  | none => rw [GC.node_new q]; show n ∈ (g.nodes ++ [(n, ([] : List (Str × Int)))]).map Prod.fst; simp
  | some a => rw [GC.node_old (by rw [q]; rfl)]; exact look_isSome.mp (by rw [q]; rfl)
theorem GC.keys_node {g : GC} {n m : Int} (h : m ∈ g.keys) : m ∈ (g.node n).keys := by
  cases q : look g.nodes n with
  | none => rw [GC.node_new q]; show m ∈ (g.nodes ++ [(n, ([] : List (Str × Int)))]).map Prod.fst; rw [List.map_append]; exact List.mem_append_left _ h
  | some a => rw [GC.node_old (by rw [q]; rfl)]; exact h
theorem Wf.node {dir : Bool} {g : GC} (h : Wf dir g) {n : Int} (h0 : 0 ≤ n) (h5 : n < 5) : Wf dir (g.node n) := by
  cases q : look g.nodes n with
  | some a => rw [GC.node_old (by rw [q]; rfl)]; exact h
  | none =>
    rw [GC.node_new q]
    have hk : (({ g with nodes := g.nodes ++ [(n, [])] } : GC)).keys = g.keys ++ [n] := by show (g.nodes ++ [(n, ([] : List (Str × Int)))]).map Prod.fst = _; rw [List.map_append]; rfl
    have hn : n ∉ g.keys := look_none.mp q
    refine ⟨?_, ?_, h.adjn, h.adjI, h.prdn, h.prdI, fun k hk' => ?_, h.egc, fun m a hm => ?_, h.smE, h.smW⟩
    · rw [hk, List.nodup_append]
      exact ⟨h.nod, by simp, fun z hz y hy => by simp at hy; subst hy; exact fun e => hn (e ▸ hz)⟩
    · rw [hk]; intro m hm
      rcases List.mem_append.mp hm with z | z
      · exact h.rng m z
      · simp at z; subst z; exact ⟨h0, h5⟩
    · rw [hk]; have := h.egk k hk'; exact ⟨List.mem_append_left _ this.1, List.mem_append_left _ this.2⟩
    · have hm' : look (g.nodes ++ [(n, [])]) m = some a := hm
      rw [look_append] at hm'
      cases z : look g.nodes m with
      | some x => rw [z] at hm'; cases hm'; exact h.smN m _ z
      | none =>
        rw [z] at hm'
        dsimp only at hm'
        split at hm'
        · cases hm'; exact Small.nil
        · cases hm'
end Nx
end
section
set_option autoImplicit false
namespace Nx
theorem look_refs {f : Int → Addr} {l : List Int} {n : Int} : look (refs f l) n = if n ∈ l then some (.ref (f n)) else none := by
  induction l with
  | nil => rfl
  | cons a r ih =>
    show look ((a, AV.ref (f a)) :: refs f r) n = _
    unfold look
    by_cases e : a = n
    · subst e; simp
    · have e' : ¬ n = a := fun q => e q.symm
      simp [e, e', ih]
theorem refs_length {f : Int → Addr} {l : List Int} : (refs f l).length = l.length := List.length_map _
theorem refs_congr {f f' : Int → Addr} {l : List Int} (h : ∀ n ∈ l, f n = f' n) : refs f l = refs f' l := List.map_congr_left fun n hn => by rw [h n hn]
theorem put_refs_new {f : Int → Addr} {l : List Int} {n : Int} {a : Addr} (h : n ∉ l) : put (refs f l) n (.ref a) = refs (fun m => if m = n then a else f m) (l ++ [n]) := by
  rw [put_new _ (by rw [look_refs, if_neg h])]
  unfold refs
  rw [List.map_append]
  congr 1
  · exact List.map_congr_left fun m hm => by show _ = (m, AV.ref (if m = n then a else f m)); rw [if_neg fun (e : m = n) => h (e ▸ hm)]
  · simp
theorem put_refs_old {f : Int → Addr} {l : List Int} {n : Int} (hn : l.Nodup) (h : n ∈ l) : put (refs f l) n (.ref (f n)) = refs f l := by
  induction l with
  | nil => cases h
  | cons a r ih =>
    show put ((a, AV.ref (f a)) :: refs f r) n (.ref (f n)) = _
    unfold put
    by_cases e : a = n
    · subst e; simp [refs]
    · have hr : n ∈ r := by
        rcases List.mem_cons.mp h with z | z
        · exact absurd z.symm e
        · exact z
      rw [if_neg e, ih (List.nodup_cons.mp hn).2 hr]
      rfl

/-! ### a vertex comes, told by tags -/
section
variable {gid : Nat} {C : Addr} {loc : Loc} {mm : List (Str × AV)} {g : GC} {n : Int} {a1 a2 a3 : Addr}
theorem want_node_u (wf : Wf false g) (hn : look g.nodes n = none) (t : Tag) (o : AObj)
    (h : wantG gid false C (lset (lset loc (tAd gid n) a1) (tNd gid n) a2) mm (g.node n) t = some o) :
    wset (wset (wset (wset (wantG gid false C loc mm g) (tAd gid n) (.dI [])) (tA gid) (.dI (put (refs (fun m => loc (tAd gid m)) g.keys) n (.ref a1)))) (tNd gid n) (.dS [])) (tN gid) (.dI (put (refs (fun m => loc (tNd gid m)) g.keys) n (.ref a2))) t = some o := by
  have hk : n ∉ g.keys := look_none.mp hn
  rw [GC.node_new hn] at h
  have hkeys : (({ g with nodes := g.nodes ++ [(n, [])] } : GC)).keys = g.keys ++ [n] := by show (g.nodes ++ [(n, ([] : List (Str × Int)))]).map Prod.fst = _; rw [List.map_append]; rfl
  rw [put_refs_new hk, put_refs_new hk]
  obtain ⟨own, role, key⟩ := t
  unfold wantG at h
  dsimp only at h
  by_cases e : own = gid
  · subst e
    rw [if_pos rfl] at h
    split at h
    · simpa [wset, lset, wantG] using h
    · simpa [wset, lset, wantG] using h
    · simpa [wset, lset, wantG] using h
    · simpa [wset, lset, hkeys] using h
    · simpa [wset, lset, hkeys] using h
    · simp at h
    · rename_i m
      by_cases z : m = n
      · subst z; simpa [wset, look_append, hn, nums] using h
      · have z' : ¬ n = m := fun q => z q.symm
        cases q : look g.nodes m with
        | none => simp [look_append, q, z'] at h
        | some x => simp [look_append, q] at h; simp [wset, wantG, z, q, h]
    · rename_i m
      by_cases z : m = n
      · subst z
        have : g.adj m = [] := by
          cases y : g.adj m with
          | nil => rfl
          | cons v r => exact absurd (wf.adjk (u := m) (v := v) (by rw [y]; exact .head _)).1 hk
        simp [look_append, hn, this, refs] at h
        simp [wset, h]
      · have z' : ¬ n = m := fun q => z q.symm
        cases q : look g.nodes m with
        | none => simp [look_append, q, z'] at h
        | some x => simp [look_append, q, lset] at h; simp [wset, wantG, z, q, h]
    · simp at h
    · simpa [wset, wantG] using h
    · cases h
  · rw [if_neg e] at h; cases h
theorem want_node_d (wf : Wf true g) (hn : look g.nodes n = none) (t : Tag) (o : AObj)
    (h : wantG gid true C (lset (lset (lset loc (tAd gid n) a1) (tPd gid n) a3) (tNd gid n) a2) mm (g.node n) t = some o) :
    wset (wset (wset (wset (wset (wset (wantG gid true C loc mm g) (tAd gid n) (.dI [])) (tA gid) (.dI (put (refs (fun m => loc (tAd gid m)) g.keys) n (.ref a1)))) (tPd gid n) (.dI [])) (tP gid) (.dI (put (refs (fun m => loc (tPd gid m)) g.keys) n (.ref a3)))) (tNd gid n) (.dS [])) (tN gid) (.dI (put (refs (fun m => loc (tNd gid m)) g.keys) n (.ref a2))) t = some o := by
  have hk : n ∉ g.keys := look_none.mp hn
  rw [GC.node_new hn] at h
  have hkeys : (({ g with nodes := g.nodes ++ [(n, [])] } : GC)).keys = g.keys ++ [n] := by show (g.nodes ++ [(n, ([] : List (Str × Int)))]).map Prod.fst = _; rw [List.map_append]; rfl
  rw [put_refs_new hk, put_refs_new hk, put_refs_new hk]
  obtain ⟨own, role, key⟩ := t
  unfold wantG at h
  dsimp only at h
  by_cases e : own = gid
  · subst e
    rw [if_pos rfl] at h
    split at h
    · simpa [wset, lset, wantG] using h
    · simpa [wset, lset, wantG] using h
    · simpa [wset, lset, wantG] using h
    · simpa [wset, lset, hkeys] using h
    · simpa [wset, lset, hkeys] using h
    · simpa [wset, lset, hkeys] using h
    · rename_i m
      by_cases z : m = n
      · subst z; simpa [wset, look_append, hn, nums] using h
      · have z' : ¬ n = m := fun q => z q.symm
        cases q : look g.nodes m with
        | none => simp [look_append, q, z'] at h
        | some x => simp [look_append, q] at h; simp [wset, wantG, z, q, h]
    · rename_i m
      by_cases z : m = n
      · subst z
        have : g.adj m = [] := by
          cases y : g.adj m with
          | nil => rfl
          | cons v r => exact absurd (wf.adjk (u := m) (v := v) (by rw [y]; exact .head _)).1 hk
        simp [look_append, hn, this, refs] at h
        simp [wset, h]
      · have z' : ¬ n = m := fun q => z q.symm
        cases q : look g.nodes m with
        | none => simp [look_append, q, z'] at h
        | some x => simp [look_append, q, lset] at h; simp [wset, wantG, z, q, h]
    · rename_i m
      by_cases z : m = n
      · subst z
        have : g.prd m = [] := by
          cases y : g.prd m with
          | nil => rfl
          | cons v r => exact absurd (wf.egk _ ((wf.prdI rfl v m).mp (by rw [y]; exact .head _))).2 hk
        simp [look_append, hn, this, refs] at h
        simp [wset, h]
      · have z' : ¬ n = m := fun q => z q.symm
        cases q : look g.nodes m with
        | none => simp [look_append, q, z'] at h
        | some x => simp [look_append, q, lset] at h; simp [wset, wantG, z, q, h]
    · simpa [wset, wantG] using h
    · cases h
  · rw [if_neg e] at h; cases h
end
end Nx
end
section
set_option autoImplicit false
namespace Nx
/-! ### an edge comes -/
def GC.edge (dir : Bool) (g : GC) (u v : Int) (more : List (Str × Int)) : GC :=
  match g.eg (ek dir u v) with
  | some old => { g with eg := fun j => if j = ek dir u v then some (mergeA old more) else g.eg j }
  | none => { g with
      eg := fun j => if j = ek dir u v then some (mergeA [] more) else g.eg j
      adj := fun w => if w = u then g.adj u ++ [v] else if dir = false ∧ w = v then g.adj v ++ [u] else g.adj w
      prd := fun w => if w = v then g.prd v ++ [u] else g.prd w }
theorem GC.edge_keys {dir : Bool} {g : GC} {u v : Int} {more : List (Str × Int)} : (g.edge dir u v more).keys = g.keys ∧ (g.edge dir u v more).nodes = g.nodes ∧ (g.edge dir u v more).whole = g.whole := by
  unfold GC.edge GC.keys; split <;> exact ⟨rfl, rfl, rfl⟩
theorem GC.edge_eg {dir : Bool} {g : GC} {u v : Int} {more : List (Str × Int)} (j : Int × Int) : (g.edge dir u v more).eg j = if j = ek dir u v then some (mergeA ((g.eg (ek dir u v)).getD []) more) else g.eg j := by
  unfold GC.edge; split <;> rename_i h <;> rw [h] <;> rfl
theorem ek_inj_u {u v w : Int} : ek false u v = ek false u w → v = w := by
  unfold ek; simp only [Bool.false_eq_true, if_false, Prod.mk.injEq]; omega
theorem ek_comm (u v : Int) : ek false u v = ek false v u := by unfold ek; simp only [Bool.false_eq_true, if_false, Prod.mk.injEq]; omega
theorem ek_eq_u {u v a b : Int} (h : ek false a b = ek false u v) : (a = u ∧ b = v) ∨ (a = v ∧ b = u) := by
  unfold ek at h; simp only [Bool.false_eq_true, if_false, Prod.mk.injEq] at h; omega
theorem Wf.edge {dir : Bool} {g : GC} (h : Wf dir g) {u v : Int} {more : List (Str × Int)} (hu : u ∈ g.keys) (hv : v ∈ g.keys) (hm : SmK more) : Wf dir (g.edge dir u v more) := by
  have hek : (ek dir u v).1 ∈ g.keys ∧ (ek dir u v).2 ∈ g.keys := by
    cases dir with
    | true => exact ⟨hu, hv⟩
    | false =>
      rcases Int.le_total u v with z | z
      · simp only [ek, Bool.false_eq_true, if_false]; rw [Int.min_eq_left z, Int.max_eq_right z]; exact ⟨hu, hv⟩
      · simp only [ek, Bool.false_eq_true, if_false]; rw [Int.min_eq_right z, Int.max_eq_left z]; exact ⟨hv, hu⟩
  have hkey := (GC.edge_keys (dir := dir) (g := g) (u := u) (v := v) (more := more))
  have hegk : ∀ k, ((g.edge dir u v more).eg k).isSome = true → k.1 ∈ (g.edge dir u v more).keys ∧ k.2 ∈ (g.edge dir u v more).keys := by
    intro k hk
    rw [hkey.1]
    rw [GC.edge_eg] at hk
    by_cases e : k = ek dir u v
    · rw [e]; exact hek
    · rw [if_neg e] at hk; exact h.egk k hk
  have hegc : ∀ k, ((g.edge dir u v more).eg k).isSome = true → dir = false → k.1 ≤ k.2 := by
    intro k hk hd
    rw [GC.edge_eg] at hk
    by_cases e : k = ek dir u v
    · rw [e, hd]; unfold ek; simp only [Bool.false_eq_true, if_false]; omega
    · rw [if_neg e] at hk; exact h.egc k hk hd
  have hsmE : ∀ k a, (g.edge dir u v more).eg k = some a → Small a := by
    intro k a hk
    rw [GC.edge_eg] at hk
    by_cases e : k = ek dir u v
    · rw [if_pos e] at hk
      cases hk
      refine Small.merge ?_ hm
      cases q : g.eg (ek dir u v) with
      | none => exact Small.nil
      | some o => exact h.smE _ _ q
    · rw [if_neg e] at hk; exact h.smE k a hk
  cases q : g.eg (ek dir u v) with
  | some old =>
    have e1 : (g.edge dir u v more).adj = g.adj := by unfold GC.edge; rw [q]
    have e2 : (g.edge dir u v more).prd = g.prd := by unfold GC.edge; rw [q]
    have iss : ∀ j, ((g.edge dir u v more).eg j).isSome = (g.eg j).isSome := by
      intro j; rw [GC.edge_eg]
      by_cases e : j = ek dir u v
      · rw [if_pos e, e, q]; rfl
      · rw [if_neg e]
    refine ⟨by rw [hkey.1]; exact h.nod, by rw [hkey.1]; exact h.rng, by rw [e1]; exact h.adjn, fun a b => ?_, by rw [e2]; exact h.prdn, fun hd a b => ?_, hegk, hegc, by rw [hkey.2.1]; exact h.smN, hsmE, by rw [hkey.2.2]; exact h.smW⟩
    · rw [e1, iss]; exact h.adjI a b
    · rw [e2, iss]; exact h.prdI hd a b
  | none =>
    have e1 : (g.edge dir u v more).adj = fun w => if w = u then g.adj u ++ [v] else if dir = false ∧ w = v then g.adj v ++ [u] else g.adj w := by unfold GC.edge; rw [q]
    have e2 : (g.edge dir u v more).prd = fun w => if w = v then g.prd v ++ [u] else g.prd w := by unfold GC.edge; rw [q]
    have iss : ∀ j, ((g.edge dir u v more).eg j).isSome = true ↔ (j = ek dir u v ∨ (g.eg j).isSome = true) := by
      intro j; rw [GC.edge_eg]
      by_cases e : j = ek dir u v
      · simp [e]
      · simp [e]
    have n1 : v ∉ g.adj u := fun z => by have := (h.adjI u v).mp z; rw [q] at this; cases this
    have app : ∀ {l : List Int} {x : Int}, l.Nodup → x ∉ l → (l ++ [x]).Nodup := by
      intro l x hl hx
      rw [List.nodup_append]
      exact ⟨hl, by simp, fun a ha b hb => by simp at hb; subst hb; exact fun e => hx (e ▸ ha)⟩
    refine ⟨by rw [hkey.1]; exact h.nod, by rw [hkey.1]; exact h.rng, fun a => ?_, fun a b => ?_, fun hd a => ?_, fun hd a b => ?_, hegk, hegc, by rw [hkey.2.1]; exact h.smN, hsmE, by rw [hkey.2.2]; exact h.smW⟩
    · rw [e1]
      dsimp only
      split
      · exact app (h.adjn u) n1
      · split
        · rename_i z
          refine app (h.adjn v) fun z' => ?_
          have := (h.adjI v u).mp z'
          rw [z.1] at q this
          rw [ek_comm, q] at this
          cases this
        · exact h.adjn a
    · rw [e1, iss]
      dsimp only
      by_cases ea : a = u
      · subst ea
        rw [if_pos rfl, List.mem_append]
        have : (ek dir a b = ek dir a v) ↔ b = v := by
          cases dir with
          | true => simp [ek]
          | false => exact ⟨fun z => ek_inj_u z, fun z => by rw [z]⟩
        rw [this, h.adjI]
        simp [or_comm]
      · rw [if_neg ea]
        by_cases eb : dir = false ∧ a = v
        · obtain ⟨hd, rfl⟩ := eb
          rw [if_pos ⟨hd, rfl⟩, List.mem_append, h.adjI]
          subst hd
          have : (ek false a b = ek false u a) ↔ b = u := ⟨fun z => by rw [ek_comm u a] at z; exact ek_inj_u z, fun z => by rw [z, ek_comm]⟩
          rw [this]
          simp [or_comm]
        · rw [if_neg eb, h.adjI]
          have : ek dir a b ≠ ek dir u v := by
            cases dir with
            | true => simp [ek]; exact fun z => absurd z ea
            | false =>
              intro z
              rcases ek_eq_u z with ⟨z1, _⟩ | ⟨z1, _⟩
              · exact ea z1
              · exact eb ⟨rfl, z1⟩
          simp [this]
    · rw [e2]
      dsimp only
      split
      · refine app (h.prdn hd v) fun z' => ?_
        have := (h.prdI hd u v).mp z'
        rw [hd] at q
        rw [show (g.eg (u, v)) = none from q] at this
        cases this
      · exact h.prdn hd a
    · rw [e2, iss]
      subst hd
      dsimp only
      by_cases eb : b = v
      · subst eb
        rw [if_pos rfl, List.mem_append, h.prdI rfl]
        simp [ek, or_comm]
      · rw [if_neg eb, h.prdI rfl]
        simp [ek, eb]
end Nx
end
section
set_option autoImplicit false
namespace Nx
theorem put_refs_app {f : Int → Addr} {l : List Int} {n : Int} {a : Addr} (h : n ∉ l) : put (refs f l) n (.ref a) = refs f l ++ [(n, .ref a)] := put_new _ (by rw [look_refs, if_neg h])
theorem refs_append {f : Int → Addr} {l : List Int} {n : Int} : refs f (l ++ [n]) = refs f l ++ [(n, .ref (f n))] := by unfold refs; rw [List.map_append]; rfl
theorem tEd_inj {gid : Nat} {k j : Int × Int} (h : tEd gid k = tEd gid j) : k = j := by
  simp only [Tag.mk.injEq, List.cons.injEq, true_and, and_true] at h
  exact Prod.ext h.1 h.2
section
variable {gid : Nat} {C : Addr} {loc : Loc} {mm : List (Str × AV)} {g : GC} {u v : Int} {d : Addr} {more : List (Str × Int)} {dir : Bool}
theorem lset_ed {k j : Int × Int} (h : j ≠ k) : lset loc (tEd gid k) d (tEd gid j) = loc (tEd gid j) := lset_ne fun e => h (tEd_inj e)
theorem rows_old (wf : Wf dir g) (hk : g.eg (ek dir u v) = none) (w : Int) : refs (fun m => lset loc (tEd gid (ek dir u v)) d (tEd gid (ek dir w m))) (g.adj w) = refs (fun m => loc (tEd gid (ek dir w m))) (g.adj w) :=
  refs_congr fun m hm => lset_ed fun e => by
    have := (wf.adjI w m).mp hm
    rw [e, hk] at this; cases this
theorem prds_old (wf : Wf true g) (hk : g.eg (u, v) = none) (w : Int) : refs (fun m => lset loc (tEd gid (u, v)) d (tEd gid (m, w))) (g.prd w) = refs (fun m => loc (tEd gid (m, w))) (g.prd w) :=
  refs_congr fun m hm => lset_ed fun e => by
    have := (wf.prdI rfl m w).mp hm
    rw [e, hk] at this; cases this
theorem want_edge_old {old : List (Str × Int)} (hk : g.eg (ek dir u v) = some old) (t : Tag) (o : AObj) (h : wantG gid dir C loc mm (g.edge dir u v more) t = some o) :
    wset (wantG gid dir C loc mm g) (tEd gid (ek dir u v)) (.dS (nums (mergeA old more))) t = some o := by
  have e1 : g.edge dir u v more = { g with eg := fun j => if j = ek dir u v then some (mergeA old more) else g.eg j } := by unfold GC.edge; rw [hk]
  rw [e1] at h
  obtain ⟨own, role, key⟩ := t
  unfold wantG at h
  dsimp only at h
  by_cases e : own = gid
  · subst e
    rw [if_pos rfl] at h
    split at h
    all_goals first
      | (simpa [wset, wantG, GC.keys] using h; done)
      | skip
    · rename_i a b
      by_cases z : (a, b) = ek dir u v
      · rw [if_pos z] at h
        rw [← z]
        simpa [wset] using h
      · rw [if_neg z] at h
        rw [wset_ne (fun q => z (tEd_inj (k := (a, b)) q))]
        simpa [wantG] using h
  · rw [if_neg e] at h; cases h
theorem want_edge_d (wf : Wf true g) (hu : u ∈ g.keys) (hv : v ∈ g.keys) (hk : g.eg (u, v) = none) (t : Tag) (o : AObj) (h : wantG gid true C (lset loc (tEd gid (u, v)) d) mm (g.edge true u v more) t = some o) :
    wset (wset (wset (wantG gid true C loc mm g) (tEd gid (u, v)) (.dS (nums (mergeA [] more)))) (tAd gid u) (.dI (put (refs (fun m => loc (tEd gid (u, m))) (g.adj u)) v (.ref d)))) (tPd gid v) (.dI (put (refs (fun m => loc (tEd gid (m, v))) (g.prd v)) u (.ref d))) t = some o := by
  have hk' : g.eg (ek true u v) = none := hk
  have n1 : v ∉ g.adj u := fun z => by have := (wf.adjI u v).mp z; rw [hk'] at this; cases this
  have n2 : u ∉ g.prd v := fun z => by have := (wf.prdI rfl u v).mp z; rw [hk] at this; cases this
  rw [put_refs_app n1, put_refs_app n2]
  have ho := fun w => rows_old (gid := gid) (loc := loc) (d := d) wf hk' w
  have hp := fun w => prds_old (gid := gid) (loc := loc) (d := d) wf hk w
  simp only [ek, if_true] at ho
  have hlu := look_isSome.mpr hu
  have hlv := look_isSome.mpr hv
  have e1 : g.edge true u v more = { g with eg := fun j => if j = (u, v) then some (mergeA [] more) else g.eg j, adj := fun w => if w = u then g.adj u ++ [v] else g.adj w, prd := fun w => if w = v then g.prd v ++ [u] else g.prd w } := by
    unfold GC.edge; rw [hk']; simp [ek]
  rw [e1] at h
  obtain ⟨own, role, key⟩ := t
  unfold wantG at h
  dsimp only at h
  by_cases e : own = gid
  · subst e
    rw [if_pos rfl] at h
    split at h
    · simpa [wset, lset, wantG] using h
    · simpa [wset, lset, wantG] using h
    · simpa [wset, lset, wantG] using h
    · simpa [wset, lset, wantG, GC.keys] using h
    · simpa [wset, lset, wantG, GC.keys] using h
    · simpa [wset, lset, wantG, GC.keys] using h
    · simpa [wset, wantG] using h
    · rename_i m
      by_cases z : m = u
      · subst z
        simp only [ek, if_true] at h
        rw [if_pos hlu, refs_append, ho m, lset_same] at h
        simpa [wset] using h
      · simp only [ek, if_true, z, if_false] at h
        rw [ho m] at h
        simpa [wset, wantG, z, ek] using h
    · rename_i m
      by_cases z : m = v
      · subst z
        simp only [if_true] at h
        rw [hlv, refs_append, hp m, lset_same] at h
        simpa [wset] using h
      · simp only [z, if_false] at h
        rw [hp m] at h
        simpa [wset, wantG, z, ek] using h
    · rename_i a b
      by_cases z : (a, b) = (u, v)
      · cases z; simpa [wset] using h
      · rw [if_neg z] at h
        have z' : ¬ (a = u ∧ b = v) := fun q => z (by rw [q.1, q.2])
        simpa [wset, wantG, z'] using h
    · cases h
  · rw [if_neg e] at h; cases h
theorem want_edge_u (wf : Wf false g) (hu : u ∈ g.keys) (hv : v ∈ g.keys) (hk : g.eg (ek false u v) = none) (t : Tag) (o : AObj) (h : wantG gid false C (lset loc (tEd gid (ek false u v)) d) mm (g.edge false u v more) t = some o) :
    wset (wset (wset (wantG gid false C loc mm g) (tEd gid (ek false u v)) (.dS (nums (mergeA [] more)))) (tAd gid u) (.dI (put (refs (fun m => loc (tEd gid (ek false u m))) (g.adj u)) v (.ref d)))) (tAd gid v)
      (.dI (put (if v = u then put (refs (fun m => loc (tEd gid (ek false u m))) (g.adj u)) v (.ref d) else refs (fun m => loc (tEd gid (ek false v m))) (g.adj v)) u (.ref d))) t = some o := by
  have n1 : v ∉ g.adj u := fun z => by have := (wf.adjI u v).mp z; rw [hk] at this; cases this
  have n2 : u ∉ g.adj v := fun z => by have := (wf.adjI v u).mp z; rw [ek_comm, hk] at this; cases this
  have ho := fun w => rows_old (gid := gid) (loc := loc) (d := d) wf hk w
  have hlu := look_isSome.mpr hu
  have hlv := look_isSome.mpr hv
  have e1 : g.edge false u v more = { g with eg := fun j => if j = ek false u v then some (mergeA [] more) else g.eg j, adj := fun w => if w = u then g.adj u ++ [v] else if w = v then g.adj v ++ [u] else g.adj w, prd := fun w => if w = v then g.prd v ++ [u] else g.prd w } := by
    unfold GC.edge; rw [hk]; simp
  rw [e1] at h
  obtain ⟨own, role, key⟩ := t
  unfold wantG at h
  dsimp only at h
  by_cases e : own = gid
  · subst e
    rw [if_pos rfl] at h
    split at h
    · simpa [wset, lset, wantG] using h
    · simpa [wset, lset, wantG] using h
    · simpa [wset, lset, wantG] using h
    · simpa [wset, lset, wantG, GC.keys] using h
    · simpa [wset, lset, wantG, GC.keys] using h
    · simp at h
    · simpa [wset, wantG] using h
    · rename_i m
      by_cases z : m = u
      · subst z
        simp only [if_true] at h
        rw [if_pos hlu, refs_append, ho m, lset_same] at h
        by_cases z2 : v = m
        · subst z2
          rw [wset_same, if_pos rfl]
          rw [put_refs_app n1]
          have : put (refs (fun m => loc (tEd own (ek false v m))) (g.adj v) ++ [(v, AV.ref d)]) v (.ref d) = refs (fun m => loc (tEd own (ek false v m))) (g.adj v) ++ [(v, AV.ref d)] := by
            have e2 := put_refs_new (f := fun m => loc (tEd own (ek false v m))) (a := d) n1
            rw [put_refs_app n1] at e2
            rw [e2]
            have e3 := put_refs_old (f := fun m => if m = v then d else loc (tEd own (ek false v m))) (l := g.adj v ++ [v]) (n := v) (by
              rw [List.nodup_append]; exact ⟨wf.adjn v, by simp, fun a ha b hb => by simp at hb; subst hb; exact fun e => n1 (e ▸ ha)⟩) (by simp)
            simp only [if_true] at e3
            exact e3
          rw [this]; exact h
        · rw [wset_ne (fun q => z2 (by simpa using q.symm)), wset_same, put_refs_app n1]; exact h
      · by_cases z2 : m = v
        · subst z2
          simp only [z, if_false, if_true] at h
          rw [if_pos hlv, refs_append, ho m, ek_comm m u, lset_same] at h
          rw [wset_same, if_neg z, put_refs_app n2]; exact h
        · simp only [z, z2, if_false] at h
          rw [ho m] at h
          simpa [wset, wantG, z, z2] using h
    · simp at h
    · rename_i a b
      by_cases z : (a, b) = ek false u v
      · rw [if_pos z] at h
        rw [← z]
        simpa [wset] using h
      · rw [if_neg z] at h
        rw [wset_ne (by simp), wset_ne (by simp), wset_ne (fun q => z (tEd_inj (k := (a, b)) q))]
        simpa [wantG] using h
    · cases h
  · rw [if_neg e] at h; cases h
end
end Nx
end
section
set_option autoImplicit false
namespace Nx
/-- a function that gives a new dict -/
def Fac (c : Cx) (f : Addr) : Prop := KeepOk c (.ref f) ∧ ∀ (nf : Bool) (A : Around) (H : AHeap) (x : AV) (t : Tag) (o : AObj), NoEntries o → Rm A 1 → CallOk nf c A H (.ref f) [x] [] (fun v H' => ∃ d, H d = none ∧ v = .ref d ∧ H' = upd H d (t, o)) (fun _ _ => False)
theorem fac_of {c : Cx} {f : Addr} {qual : Str} {params : Arguments} {body : List Stmt} {scope : Scope} {cdv : Value} (hf : FnIs c f qual params body scope .none .none cdv) (hgen : scope.isGenerator = false) (hb : ∃ p q, body = [.Return (some (.Dict [] [] p)) q])
    (hpar : ∀ name doc pm an ct v, bindArgs (fnOf name qual params body scope .none .none doc pm an cdv ct) ⟨[v], []⟩ = pure [(("self" : Str), v)]) (hl : scope.names.lookup ("self" : Str) = some .local) : Fac c f := ⟨hf.keep, fun nf A H x t o ho rm => by
  obtain ⟨p, q, rfl⟩ := hb
  refine call_fn (P := fun ab H' => ab = ([("self", x)] : List (Str × AV)) ∧ H' = H) hf hgen rm.room ?_ ?_ ?_
  · intro name doc pm an ct W s vs kvs ok h1 h2
    cases h2
    cases h1 with | cons r1 h1 => cases h1 with | nil =>
    rename_i v1
    exact BindsTo.of_eq (hpar name doc pm an ct v1) _ _ _ _ ⟨W, H, _, Post.refl ok, .cons ⟨rfl, r1⟩ .nil, rfl, rfl⟩
  · rintro ab H' ⟨rfl, rfl⟩
    simp [hl]
  · rintro L ab H' ⟨rfl, rfl⟩ hL
    exact as_cons (a1_returnE (ae_dict0 t ho fun d hd => ⟨d, hd, rfl, rfl⟩))⟩

structure Attrs (gid : Nat) (dir : Bool) (loc : Loc) (mm : List (Str × AV)) : Prop where
  g : look mm "graph" = some (.ref (loc (tG gid)))
  n : look mm "_node" = some (.ref (loc (tN gid)))
  a : look mm "_adj" = some (.ref (loc (tA gid)))
  s : dir = true → look mm "_succ" = some (.ref (loc (tA gid)))
  p : dir = true → look mm "_pred" = some (.ref (loc (tP gid)))
  j : look mm "adj" = none ∨ look mm "adj" = some (.ref (loc (tA gid)))
  other : ∀ name : Str, name ∉ (["graph", "_node", "_adj", "_succ", "_pred", "nodes", "adj"] : List Str) → look mm name = none
  len : mm.length + (if (look mm "nodes").isSome then 0 else 1) + (if (look mm "adj").isSome then 0 else 1) ≤ 20
def vid (gid : Nat) : Nat := gid + 100
abbrev tV (gid : Nat) : Tag := ⟨vid gid, 0, []⟩
abbrev tW (gid : Nat) : Tag := ⟨vid gid, 1, []⟩
structure GAt (gid : Nat) (dir : Bool) (C CN : Addr) (loc : Loc) (mm : List (Str × AV)) (g : GC) (H : AHeap) : Prop where
  at_ : At loc (wantG gid dir C loc mm g) H
  att : Attrs gid dir loc mm
  wf : Wf dir g
  nv : look mm "nodes" = none ∨ ∃ a d, look mm "nodes" = some (.ref a) ∧ H a = some (tV gid, .slot1 CN d (.ref (loc (tN gid)))) ∧ H d = some (tW gid, .nS [])
def Same (gid : Nat) (loc loc' : Loc) : Prop := ∀ t, t.own = gid → t.role ≤ 5 → loc' t = loc t
theorem Same.refl (gid : Nat) (loc : Loc) : Same gid loc loc := fun _ _ _ => rfl
theorem Same.trans {gid : Nat} {loc loc' loc'' : Loc} (x : Same gid loc loc') (y : Same gid loc' loc'') : Same gid loc loc'' := fun t h1 h2 => (y t h1 h2).trans (x t h1 h2)
theorem Same.set {gid : Nat} {loc : Loc} {t : Tag} {a : Addr} (h : 5 < t.role) : Same gid loc (lset loc t a) := fun t' _ h2 => lset_ne fun e => by rw [e] at h2; omega
theorem Attrs.same {gid : Nat} {dir : Bool} {loc loc' : Loc} {mm : List (Str × AV)} (h : Attrs gid dir loc mm) (s : Same gid loc loc') : Attrs gid dir loc' mm :=
  ⟨by rw [s _ rfl (by simp)]; exact h.g, by rw [s _ rfl (by simp)]; exact h.n, by rw [s _ rfl (by simp)]; exact h.a, fun hd => by rw [s _ rfl (by simp)]; exact h.s hd, fun hd => by rw [s _ rfl (by simp)]; exact h.p hd, by rw [s _ rfl (by simp)]; exact h.j, h.other, h.len⟩
section
variable {gid : Nat} {dir : Bool} {C CN : Addr} {loc : Loc} {mm : List (Str × AV)} {g : GC} {H : AHeap}
theorem GAt.x (h : GAt gid dir C CN loc mm g H) : H (loc (tX gid)) = some (tX gid, .inst C (loc (tD gid))) := h.at_ _ _ (by simp [wantG])
theorem GAt.d (h : GAt gid dir C CN loc mm g H) : H (loc (tD gid)) = some (tD gid, .nS mm) := h.at_ _ _ (by simp [wantG])
theorem GAt.w (h : GAt gid dir C CN loc mm g H) : H (loc (tG gid)) = some (tG gid, .dS (nums g.whole)) := h.at_ _ _ (by simp [wantG])
theorem GAt.n (h : GAt gid dir C CN loc mm g H) : H (loc (tN gid)) = some (tN gid, .dI (refs (fun n => loc (tNd gid n)) g.keys)) := h.at_ _ _ (by simp [wantG])
theorem GAt.a (h : GAt gid dir C CN loc mm g H) : H (loc (tA gid)) = some (tA gid, .dI (refs (fun n => loc (tAd gid n)) g.keys)) := h.at_ _ _ (by simp [wantG])
theorem GAt.p (h : GAt gid dir C CN loc mm g H) (hd : dir = true) : H (loc (tP gid)) = some (tP gid, .dI (refs (fun n => loc (tPd gid n)) g.keys)) := h.at_ _ _ (by simp [wantG, hd])
theorem GAt.nd (h : GAt gid dir C CN loc mm g H) {n : Int} {a : List (Str × Int)} (hn : look g.nodes n = some a) : H (loc (tNd gid n)) = some (tNd gid n, .dS (nums a)) := h.at_ _ _ (by simp [wantG, hn])
theorem GAt.ad (h : GAt gid dir C CN loc mm g H) {n : Int} (hn : n ∈ g.keys) : H (loc (tAd gid n)) = some (tAd gid n, .dI (refs (fun v => loc (tEd gid (ek dir n v))) (g.adj n))) := h.at_ _ _ (by simp [wantG, look_isSome.mpr hn])
theorem GAt.pd (h : GAt gid dir C CN loc mm g H) (hd : dir = true) {n : Int} (hn : n ∈ g.keys) : H (loc (tPd gid n)) = some (tPd gid n, .dI (refs (fun u => loc (tEd gid (u, n))) (g.prd n))) := h.at_ _ _ (by simp [wantG, hd, look_isSome.mpr hn])
theorem GAt.ed (h : GAt gid dir C CN loc mm g H) {k : Int × Int} {a : List (Str × Int)} (hk : g.eg k = some a) : H (loc (tEd gid k)) = some (tEd gid k, .dS (nums a)) := h.at_ _ _ (by simp [wantG, hk])
theorem wantG_own {t : Tag} (h : wantG gid dir C loc mm g t ≠ none) : t.own = gid := by
  unfold wantG at h
  by_cases e : t.own = gid
  · exact e
  · rw [if_neg e] at h; exact absurd rfl h
theorem GAt.frame {gid' : Nat} {H' : AHeap} (h : GAt gid dir C CN loc mm g H) (f : Frame gid' H H') (hg : gid ≠ gid') (hv : vid gid ≠ gid') (h0 : gid ≠ xo) : GAt gid dir C CN loc mm g H' :=
  ⟨h.at_.frame f fun t ht => ⟨(wantG_own ht).symm ▸ hg, (wantG_own ht).symm ▸ h0⟩, h.att, h.wf, h.nv.imp id fun ⟨a, d, h1, h2, h3⟩ => ⟨a, d, h1, f _ _ _ h2 hv (by show gid + 100 ≠ 0; omega), f _ _ _ h3 hv (by show gid + 100 ≠ 0; omega)⟩⟩
/-- what the graph's own ops leave of its view -/
theorem GAt.nv_keep {H' : AHeap} {loc' : Loc} (h : GAt gid dir C CN loc mm g H) (f : Frame gid H H') (s : Same gid loc loc') : look mm "nodes" = none ∨ ∃ a d, look mm "nodes" = some (.ref a) ∧ H' a = some (tV gid, .slot1 CN d (.ref (loc' (tN gid)))) ∧ H' d = some (tW gid, .nS []) :=
  h.nv.imp id fun ⟨a, d, h1, h2, h3⟩ => ⟨a, d, h1, by rw [s _ rfl (by simp)]; exact f _ _ _ h2 (by show gid + 100 ≠ gid; omega) (by show gid + 100 ≠ 0; omega), f _ _ _ h3 (by show gid + 100 ≠ gid; omega) (by show gid + 100 ≠ 0; omega)⟩

/-- the class of a graph -/
structure Kls (c : Cx) (dir : Bool) (C CN : Addr) : Prop where
  cls : ClsOk c C
  sets : SetsOk c C
  yl : ∀ name ∈ (["graph", "_node", "_adj", "_succ", "_pred", "nodes", "adj"] : List Str), Yields c C name
  adjF : ∃ f, MethIs c C "adjlist_inner_dict_factory" f ∧ Fac c f
  nodeF : ∃ f, MethIs c C "node_attr_dict_factory" f ∧ Fac c f
  edgeF : ∃ f, MethIs c C "edge_attr_dict_factory" f ∧ Fac c f
  graphF : ∃ f, MethIs c C "graph_attr_dict_factory" f ∧ Fac c f
  nodesF : ∃ f, MethIs c C "node_dict_factory" f ∧ Fac c f
  outerF : ∃ f, MethIs c C "adjlist_outer_dict_factory" f ∧ Fac c f
  tk : ∀ name ∈ (["graph", "_node", "_adj", "_succ", "_pred"] : List Str), takerIn c.K C name = some none
end

section
variable {nf : Bool} {c : Cx} {A : Around} {env : Env} {m : LM} {H : AHeap} {E : AV → LM → AHeap → Prop} {gid : Nat} {dir : Bool} {C CN : Addr} {loc : Loc} {mm : List (Str × AV)} {g : GC}

/-- an expression for the instance's own attribute -/
theorem pe_own {o : Expr} {name : Str} {pos : Pos} {x d : Addr} {t t' : Tag} {v : AV} (k : Kls c dir C CN) (ho : PE c A env m H o (.ref x)) (h1 : H x = some (t, .inst C d)) (h2 : H d = some (t', .nS mm)) (hv : look mm name = some v) (hn : name ∈ (["graph", "_node", "_adj", "_succ", "_pred", "nodes", "adj"] : List Str) := by decide)
    (hh : v.plain = true := by rfl) (he : eval (.Attribute o name pos) env = (do let ov ← eval o env; standAt pos.atName; let r ← holding [ov] (getAttr ov name true); letTemporaryGo o ov r; pure r) := by rfl) : PE c A env m H (.Attribute o name pos) v :=
  pe_attr ho h1 h2 (k.yl name hn) hv hh he
/-- a factory of the instance, called -/
theorem ae_fac {o : Expr} {name : Str} {apos pos : Pos} {x d : Addr} {t t' : Tag} {Q : AV → LM → AHeap → Prop} (t0 : Tag) {o0 : AObj} (h0 : NoEntries o0) (rm : Rm A 1) (hf : ∃ f, MethIs c C name f ∧ Fac c f) (ho : PE c A env m H o (.ref x)) (h1 : H x = some (t, .inst C d)) (h2 : H d = some (t', .nS mm)) (hs : look mm name = none)
    (q : ∀ n, H n = none → Q (.ref n) m (upd H n (t0, o0)))
    (he : ∃ pl, eval (.Call (.Attribute o name apos) [] [] pos) env = (do
      let ov ← eval o env
      standAt apos.atName
      let (f, first) ← holding [ov] (getMethod ov name pl)
      callWith pos f first (backTo pos (starEach [] env)) (backToKw pos (keywordEach [] env))) := by exact ⟨_, rfl⟩) : AE nf c A env m H (.Call (.Attribute o name apos) [] [] pos) Q E := by
  obtain ⟨f, hm, hk, hc⟩ := hf
  refine ae_meth (names := []) ho h1 h2 hm hs hk (al_nil ⟨[], kw_nil, rfl, ?_⟩) rfl rfl rfl he
  exact CallOk.mono (hc nf A H _ t0 o0 h0 rm) (fun v H' ⟨n, hn, e1, e2⟩ => by subst e1 e2; exact q n hn) fun _ _ z => z.elim
end
end Nx
end
section
set_option autoImplicit false
namespace Nx
theorem upd_new {H : AHeap} {a b : Addr} {x y : Tag × AObj} (ha : H a = none) (hb : H b = some y) : upd H a x b = some y := upd_of (fun e => by rw [e, ha] at hb; cases hb) hb
theorem upd_tag {H : AHeap} {a b : Addr} {t t' : Tag} {x : Tag × AObj} {o o' : AObj} (ha : H a = some (t', o')) (hb : H b = some (t, o)) (ht : t ≠ t') : upd H a x b = some (t, o) := upd_of (fun e => by rw [e, ha] at hb; cases hb; exact ht rfl) hb
section
variable {nf : Bool} {c : Cx} {A : Around} {env : Env} {m : LM} {H : AHeap} {E : AV → LM → AHeap → Prop} {gid : Nat} {dir : Bool} {C CN : Addr} {loc : Loc} {mm : List (Str × AV)} {g : GC}

/-- names of the frame at hand -/
structure Nm (env : Env) (m : LM) (x : Str) (v : AV) : Prop where
  val : m x = some v
  kind : env.scope.kind = .function
  loc : env.kindOf x = some .local
  dbg : (x == ("__debug__" : Str)) = false
theorem Nm.pe {x : Str} {v : AV} {pos : Pos} (h : Nm env m x v) : PE c A env m H (.Name x pos) v := pe_name h.val h.kind h.loc h.dbg

/-- a call of a method, as it stands in the text -/
def MCall (env : Env) (o : Expr) (name : Str) (apos : Pos) (pos : Pos) : Prop := ∃ pl, eval (.Call (.Attribute o name apos) [] [] pos) env = (do
      let ov ← eval o env
      standAt apos.atName
      let (f, first) ← holding [ov] (getMethod ov name pl)
      callWith pos f first (backTo pos (starEach [] env)) (backToKw pos (keywordEach [] env)))
theorem as_node_u {x : Str} {n : Int} {k0 : Nat} {q1 q2 q3 q4 p1 p2 p3 p4 p5 p6 p7 p8 r1 r2 r3 r4 r5 r6 r7 r8 : Pos} {body : List Stmt} {Q : AFl → LM → AHeap → Prop} (k : Kls c false C CN) (rm : Rm A 1) (hg : GAt gid false C CN loc mm g H)
    (hs : Nm env m "self" (.ref (loc (tX gid)))) (hx : Nm env m x (.int n)) (hn : look g.nodes n = none) (h0 : 0 ≤ n) (h5 : n < 5)
    (q : ∀ loc' H', GAt gid false C CN loc' mm (g.node n) H' → Same gid loc loc' → Frame gid H H' → Q .next m H')
    (e1 : MCall env (.Name "self" p5) "adjlist_inner_dict_factory" p6 p7 := by exact ⟨_, rfl⟩) (e2 : MCall env (.Name "self" r5) "node_attr_dict_factory" r6 r7 := by exact ⟨_, rfl⟩) :
    AS nf c A env m H [.If (.Compare (.Name x q1) [.Is] [.Constant .none k0 q2] q3) body [] q4,
      .Assign [.Subscript (.Attribute (.Name "self" p1) "_adj" p2) (.Name x p3) p4] (.Call (.Attribute (.Name "self" p5) "adjlist_inner_dict_factory" p6) [] [] p7) p8,
      .Assign [.Subscript (.Attribute (.Name "self" r1) "_node" r2) (.Name x r3) r4] (.Call (.Attribute (.Name "self" r5) "node_attr_dict_factory" r6) [] [] r7) r8] Q E := by
  have hk : n ∉ g.keys := look_none.mp hn
  have hz := hg.wf.count
  refine as_cons (a1_if (b := false) (pb_cmp hx.pe pe_none cmp_is_none_f) (as_nil ?_))
  refine as_cons (a1_setE (ae_fac (tAd gid n) (o0 := .dI []) rfl rm k.adjF hs.pe hg.x hg.d (hg.att.other _ (by decide)) (he := e1) fun a1 ha1 => ?_))
  refine ⟨.ref (loc (tA gid)), .int n, pe_own k hs.pe (upd_new ha1 hg.x) (upd_new ha1 hg.d) hg.att.a, hx.pe, ?_⟩
  refine SetOk.mono (set_dI (upd_new ha1 hg.a) (by rw [refs_length]; omega)) ?_
  rintro H2 rfl
  have ea := upd_new (x := (tAd gid n, AObj.dI [])) ha1 hg.a
  refine as_cons (a1_setE (ae_fac (tNd gid n) (o0 := .dS []) rfl rm k.nodeF hs.pe (upd_tag ea (upd_new ha1 hg.x) (by simp)) (upd_tag ea (upd_new ha1 hg.d) (by simp)) (hg.att.other _ (by decide)) (he := e2) fun a2 ha2 => ?_))
  refine ⟨.ref (loc (tN gid)), .int n, pe_own k hs.pe (upd_new ha2 (upd_tag ea (upd_new ha1 hg.x) (by simp))) (upd_new ha2 (upd_tag ea (upd_new ha1 hg.d) (by simp))) hg.att.n, hx.pe, ?_⟩
  refine SetOk.mono (set_dI (upd_new ha2 (upd_tag ea (upd_new ha1 hg.n) (by simp))) (by rw [refs_length]; omega)) ?_
  rintro H4 rfl
  refine as_nil ?_
  have w1 : wantG gid false C loc mm g (tAd gid n) = none := by simp [wantG, hn]
  have A1 := hg.at_.new (.dI []) ha1 w1
  have A2 := A1.upd (t := tA gid) (.dI (put (refs (fun m => loc (tAd gid m)) g.keys) n (.ref a1))) (by simp [wset, wantG])
  rw [lset_ne (by simp)] at A2
  have w2 : wset (wset (wantG gid false C loc mm g) (tAd gid n) (AObj.dI [])) (tA gid) (.dI (put (refs (fun m => loc (tAd gid m)) g.keys) n (.ref a1))) (tNd gid n) = none := by simp [wset, wantG, hn]
  have A3 := A2.new (.dS []) ha2 w2
  have A4 := A3.upd (t := tN gid) (.dI (put (refs (fun m => loc (tNd gid m)) g.keys) n (.ref a2))) (by simp [wset, wantG])
  rw [lset_ne (by simp), lset_ne (by simp)] at A4
  have sm : Same gid loc (lset (lset loc (tAd gid n) a1) (tNd gid n) a2) := (Same.set (by simp)).trans (Same.set (by simp))
  have fr : Frame gid H (upd (upd (upd (upd H a1 (tAd gid n, .dI [])) (loc (tA gid)) (tA gid, .dI (put (refs (fun m => loc (tAd gid m)) g.keys) n (.ref a1)))) a2 (tNd gid n, .dS [])) (loc (tN gid)) (tN gid, .dI (put (refs (fun m => loc (tNd gid m)) g.keys) n (.ref a2)))) := by
    refine ((Frame.new ha1).trans (Frame.upd fun t o e => ?_)).trans ((Frame.new ha2).trans (Frame.upd fun t o e => ?_))
    · rw [ea] at e; cases e; rfl
    · rw [upd_new ha2 (upd_tag ea (upd_new ha1 hg.n) (by simp))] at e; cases e; rfl
  exact q _ _ ⟨A4.weak (want_node_u hg.wf hn), hg.att.same sm, hg.wf.node h0 h5, hg.nv_keep fr sm⟩ sm fr

theorem as_node_d {x : Str} {n : Int} {k0 : Nat} {q1 q2 q3 q4 p1 p2 p3 p4 p5 p6 p7 p8 s1 s2 s3 s4 s5 s6 s7 s8 r1 r2 r3 r4 r5 r6 r7 r8 : Pos} {body : List Stmt} {Q : AFl → LM → AHeap → Prop} (k : Kls c true C CN) (rm : Rm A 1) (hg : GAt gid true C CN loc mm g H)
    (hs : Nm env m "self" (.ref (loc (tX gid)))) (hx : Nm env m x (.int n)) (hn : look g.nodes n = none) (h0 : 0 ≤ n) (h5 : n < 5)
    (q : ∀ loc' H', GAt gid true C CN loc' mm (g.node n) H' → Same gid loc loc' → Frame gid H H' → Q .next m H')
    (e1 : MCall env (.Name "self" p5) "adjlist_inner_dict_factory" p6 p7 := by exact ⟨_, rfl⟩) (e2 : MCall env (.Name "self" s5) "adjlist_inner_dict_factory" s6 s7 := by exact ⟨_, rfl⟩) (e3 : MCall env (.Name "self" r5) "node_attr_dict_factory" r6 r7 := by exact ⟨_, rfl⟩) :
    AS nf c A env m H [.If (.Compare (.Name x q1) [.Is] [.Constant .none k0 q2] q3) body [] q4,
      .Assign [.Subscript (.Attribute (.Name "self" p1) "_succ" p2) (.Name x p3) p4] (.Call (.Attribute (.Name "self" p5) "adjlist_inner_dict_factory" p6) [] [] p7) p8,
      .Assign [.Subscript (.Attribute (.Name "self" s1) "_pred" s2) (.Name x s3) s4] (.Call (.Attribute (.Name "self" s5) "adjlist_inner_dict_factory" s6) [] [] s7) s8,
      .Assign [.Subscript (.Attribute (.Name "self" r1) "_node" r2) (.Name x r3) r4] (.Call (.Attribute (.Name "self" r5) "node_attr_dict_factory" r6) [] [] r7) r8] Q E := by
  have hk : n ∉ g.keys := look_none.mp hn
  have hz := hg.wf.count
  refine as_cons (a1_if (b := false) (pb_cmp hx.pe pe_none cmp_is_none_f) (as_nil ?_))
  refine as_cons (a1_setE (ae_fac (tAd gid n) (o0 := .dI []) rfl rm k.adjF hs.pe hg.x hg.d (hg.att.other _ (by decide)) (he := e1) fun a1 ha1 => ?_))
  refine ⟨.ref (loc (tA gid)), .int n, pe_own k hs.pe (upd_new ha1 hg.x) (upd_new ha1 hg.d) (hg.att.s rfl), hx.pe, ?_⟩
  refine SetOk.mono (set_dI (upd_new ha1 hg.a) (by rw [refs_length]; omega)) ?_
  rintro H2 rfl
  have ea := upd_new (x := (tAd gid n, AObj.dI [])) ha1 hg.a
  have hx2 := upd_tag (x := (tA gid, AObj.dI (put (refs (fun m => loc (tAd gid m)) g.keys) n (.ref a1)))) ea (upd_new ha1 hg.x) (by simp)
  have hd2 := upd_tag (x := (tA gid, AObj.dI (put (refs (fun m => loc (tAd gid m)) g.keys) n (.ref a1)))) ea (upd_new ha1 hg.d) (by simp)
  have hn2 := upd_tag (x := (tA gid, AObj.dI (put (refs (fun m => loc (tAd gid m)) g.keys) n (.ref a1)))) ea (upd_new ha1 hg.n) (by simp)
  have hp2 := upd_tag (x := (tA gid, AObj.dI (put (refs (fun m => loc (tAd gid m)) g.keys) n (.ref a1)))) ea (upd_new ha1 (hg.p rfl)) (by simp)
  refine as_cons (a1_setE (ae_fac (tPd gid n) (o0 := .dI []) rfl rm k.adjF hs.pe hx2 hd2 (hg.att.other _ (by decide)) (he := e2) fun a3 ha3 => ?_))
  refine ⟨.ref (loc (tP gid)), .int n, pe_own k hs.pe (upd_new ha3 hx2) (upd_new ha3 hd2) (hg.att.p rfl), hx.pe, ?_⟩
  have ep := upd_new (x := (tPd gid n, AObj.dI [])) ha3 hp2
  refine SetOk.mono (set_dI ep (by rw [refs_length]; omega)) ?_
  rintro H4 rfl
  have hx4 := upd_tag (x := (tP gid, AObj.dI (put (refs (fun m => loc (tPd gid m)) g.keys) n (.ref a3)))) ep (upd_new ha3 hx2) (by simp)
  have hd4 := upd_tag (x := (tP gid, AObj.dI (put (refs (fun m => loc (tPd gid m)) g.keys) n (.ref a3)))) ep (upd_new ha3 hd2) (by simp)
  have hn4 := upd_tag (x := (tP gid, AObj.dI (put (refs (fun m => loc (tPd gid m)) g.keys) n (.ref a3)))) ep (upd_new ha3 hn2) (by simp)
  refine as_cons (a1_setE (ae_fac (tNd gid n) (o0 := .dS []) rfl rm k.nodeF hs.pe hx4 hd4 (hg.att.other _ (by decide)) (he := e3) fun a2 ha2 => ?_))
  refine ⟨.ref (loc (tN gid)), .int n, pe_own k hs.pe (upd_new ha2 hx4) (upd_new ha2 hd4) hg.att.n, hx.pe, ?_⟩
  refine SetOk.mono (set_dI (upd_new ha2 hn4) (by rw [refs_length]; omega)) ?_
  rintro H6 rfl
  refine as_nil ?_
  have w1 : wantG gid true C loc mm g (tAd gid n) = none := by simp [wantG, hn]
  have A1 := hg.at_.new (.dI []) ha1 w1
  have A2 := A1.upd (t := tA gid) (.dI (put (refs (fun m => loc (tAd gid m)) g.keys) n (.ref a1))) (by simp [wset, wantG])
  rw [lset_ne (by simp)] at A2
  have A3 := A2.new (t := tPd gid n) (.dI []) ha3 (by simp [wset, wantG, hn])
  have A4 := A3.upd (t := tP gid) (.dI (put (refs (fun m => loc (tPd gid m)) g.keys) n (.ref a3))) (by simp [wset, wantG])
  rw [lset_ne (by simp), lset_ne (by simp)] at A4
  have A5 := A4.new (t := tNd gid n) (.dS []) ha2 (by simp [wset, wantG, hn])
  have A6 := A5.upd (t := tN gid) (.dI (put (refs (fun m => loc (tNd gid m)) g.keys) n (.ref a2))) (by simp [wset, wantG])
  rw [lset_ne (by simp), lset_ne (by simp), lset_ne (by simp)] at A6
  have sm : Same gid loc (lset (lset (lset loc (tAd gid n) a1) (tPd gid n) a3) (tNd gid n) a2) := ((Same.set (by simp)).trans (Same.set (by simp))).trans (Same.set (by simp))
  have fr : Frame gid H (upd (upd (upd (upd (upd (upd H a1 (tAd gid n, .dI [])) (loc (tA gid)) (tA gid, .dI (put (refs (fun m => loc (tAd gid m)) g.keys) n (.ref a1)))) a3 (tPd gid n, .dI [])) (loc (tP gid)) (tP gid, .dI (put (refs (fun m => loc (tPd gid m)) g.keys) n (.ref a3)))) a2 (tNd gid n, .dS [])) (loc (tN gid)) (tN gid, .dI (put (refs (fun m => loc (tNd gid m)) g.keys) n (.ref a2)))) := by
    refine (((Frame.new ha1).trans (Frame.upd fun t o e => ?_)).trans ((Frame.new ha3).trans (Frame.upd fun t o e => ?_))).trans ((Frame.new ha2).trans (Frame.upd fun t o e => ?_))
    · rw [ea] at e; cases e; rfl
    · rw [ep] at e; cases e; rfl
    · rw [upd_new ha2 hn4] at e; cases e; rfl
  exact q _ _ ⟨A6.weak (want_node_d hg.wf hn), hg.att.same sm, hg.wf.node h0 h5, hg.nv_keep fr sm⟩ sm fr
end
end Nx
end
section
set_option autoImplicit false
namespace Nx
theorem mergeA_append {κ : Type} [DecidableEq κ] {α : Type} (l a b : List (κ × α)) : mergeA l (a ++ b) = mergeA (mergeA l a) b := List.foldl_append
def MCallA (env : Env) (o : Expr) (name : Str) (apos : Pos) (args : List Expr) (pos : Pos) : Prop := ∃ pl, eval (.Call (.Attribute o name apos) args [] pos) env = (do
      let ov ← eval o env
      standAt apos.atName
      let (f, first) ← holding [ov] (getMethod ov name pl)
      callWith pos f first (backTo pos (starEach args env)) (backToKw pos (keywordEach [] env)))
section
variable {nf : Bool} {c : Cx} {A : Around} {env : Env} {m : LM} {H : AHeap} {E : AV → LM → AHeap → Prop} {gid : Nat} {dir : Bool} {C CN : Addr} {loc : Loc} {mm : List (Str × AV)} {g : GC}
theorem Nm.set {x y : Str} {v w : AV} (h : Nm env m x v) (hn : x ≠ y) : Nm env (setm m y w) x v := ⟨by unfold setm; rw [if_neg hn]; exact h.val, h.kind, h.loc, h.dbg⟩
theorem Nm.new {x : Str} {v : AV} (hk : env.scope.kind = .function) (hl : env.kindOf x = some .local) (hd : (x == ("__debug__" : Str)) = false) : Nm env (setm m x v) x v := ⟨by unfold setm; rw [if_pos rfl], hk, hl, hd⟩

/-- self._adj[u] -/
theorem pe_row {x nm : Str} {n : Int} {p1 p2 p3 p4 : Pos} {X D a : Addr} {t t' ta : Tag} {f : Int → Addr} {l : List Int} (k : Kls c dir C CN) (hs : Nm env m "self" (.ref X)) (hx : Nm env m x (.int n)) (h1 : H X = some (t, .inst C D)) (h2 : H D = some (t', .nS mm)) (hm : look mm nm = some (.ref a))
    (ha : H a = some (ta, .dI (refs f l))) (hn : n ∈ l) (hnm : nm ∈ (["graph", "_node", "_adj", "_succ", "_pred", "nodes", "adj"] : List Str) := by decide) : PE c A env m H (.Subscript (.Attribute (.Name "self" p1) nm p2) (.Name x p3) p4) (.ref (f n)) :=
  pe_sub_dI (pe_own k hs.pe h1 h2 hm hnm) hx.pe ha (by rw [look_refs, if_pos hn])

theorem as_edge_u {x y dd : Str} {u v : Int} {more : List (Str × Int)} {ups : List Stmt} {p1 p2 p3 p4 p5 p6 p7 p8 p9 p10 p11 a1 a2 a3 a4 a5 a6 a7 a8 b1 b2 b3 b4 b5 b6 b7 b8 b9 : Pos} {Q : AFl → LM → AHeap → Prop} (k : Kls c false C CN) (rm : Rm A 1) (hg : GAt gid false C CN loc mm g H)
    (hs : Nm env m "self" (.ref (loc (tX gid)))) (hx : Nm env m x (.int u)) (hy : Nm env m y (.int v)) (hxd : x ≠ dd) (hyd : y ≠ dd) (hsd : (("self" : Str)) ≠ dd) (hdl : env.kindOf dd = some .local) (hdd : (dd == ("__debug__" : Str)) = false) (hu : u ∈ g.keys) (hv : v ∈ g.keys) (hm : SmK more)
    (hups : ∀ H1 d l rest Q', Frame gid H H1 → H1 d = some (tEd gid (ek false u v), .dS (nums l)) → l.length ≤ 3 → AS nf c A env (setm m dd (.ref d)) (upd H1 d (tEd gid (ek false u v), .dS (nums (mergeA l more)))) rest Q' E → AS nf c A env (setm m dd (.ref d)) H1 (ups ++ rest) Q' E)
    (q : ∀ loc' H' d, GAt gid false C CN loc' mm (g.edge false u v more) H' → Same gid loc loc' → Frame gid H H' → Q .next (setm m dd (.ref d)) H')
    (e1 : MCallA env (.Subscript (.Attribute (.Name "self" p1) "_adj" p2) (.Name x p3) p4) "get" p5 [.Name y p6, .Call (.Attribute (.Name "self" p7) "edge_attr_dict_factory" p8) [] [] p9] p10 := by exact ⟨_, rfl⟩)
    (e2 : MCall env (.Name "self" p7) "edge_attr_dict_factory" p8 p9 := by exact ⟨_, rfl⟩) :
    AS nf c A env m H (.Assign [.Name dd a1] (.Call (.Attribute (.Subscript (.Attribute (.Name "self" p1) "_adj" p2) (.Name x p3) p4) "get" p5) [.Name y p6, .Call (.Attribute (.Name "self" p7) "edge_attr_dict_factory" p8) [] [] p9] [] p10) p11 ::
      (ups ++ [.Assign [.Subscript (.Subscript (.Attribute (.Name "self" a2) "_adj" a3) (.Name x a4) a5) (.Name y a6) a7] (.Name dd a8) b8, .Assign [.Subscript (.Subscript (.Attribute (.Name "self" b1) "_adj" b2) (.Name y b3) b4) (.Name x b5) b6] (.Name dd b7) b9])) Q E := by
  have hk := hs.kind
  have hzu := hg.wf.adjc u
  have hzv := hg.wf.adjc v
  refine as_cons (a1_assignE ?_ hdl hk)
  refine ae_bmeth F.slot_dict_get F.plainAttrs_dict F.type_dict_get (a := .ref (loc (tAd gid u))) (pe_row k hs hx hg.x hg.d hg.att.a hg.a hu) (plainly_dI (hg.ad hu)) ?_ rfl e1
  refine al_cons (ae_pe hy.pe ?_)
  refine al_cons (ae_fac (tEd gid (ek false u v)) (o0 := .dS []) rfl rm k.edgeF hs.pe hg.x hg.d (hg.att.other _ (by decide)) (he := e2) fun d0 hd0 => al_nil ?_)
  refine CallOk.mono (call_get_dI (upd_new hd0 (hg.ad hu))) ?_ fun _ _ z => z
  rintro w H1 ⟨rfl, rfl⟩
  rw [look_refs]
  have hs' := fun d => hs.set (w := .ref d) hsd
  have hx' := fun d => hx.set (w := .ref d) hxd
  have hy' := fun d => hy.set (w := .ref d) hyd
  have hdn : ∀ d, Nm env (setm m dd (.ref d)) dd (.ref d) := fun d => Nm.new hk hdl hdd
  cases q0 : g.eg (ek false u v) with
  | some old =>
    have hmem : v ∈ g.adj u := (hg.wf.adjI u v).mpr (by rw [q0]; rfl)
    have hmem' : u ∈ g.adj v := (hg.wf.adjI v u).mpr (by rw [ek_comm, q0]; rfl)
    rw [if_pos hmem]
    refine AS.forget d0 ?_
    rw [drop_upd hd0]
    have hso := hg.wf.smE _ _ q0
    refine hups H _ old _ _ (Frame.refl _ _) (hg.ed q0) hso.length ?_
    have A1 := (hg.at_.upd (t := tEd gid (ek false u v)) (.dS (nums (mergeA old more))) (by simp [wantG, q0])).weak (want_edge_old q0)
    have f1 : Frame gid H (upd H (loc (tEd gid (ek false u v))) (tEd gid (ek false u v), .dS (nums (mergeA old more)))) := Frame.at hg.at_ (by simp [wantG, q0]) rfl
    have g1 : GAt gid false C CN loc mm (g.edge false u v more) _ := ⟨A1, hg.att, hg.wf.edge hu hv hm, hg.nv_keep f1 (Same.refl _ _)⟩
    have hadj : (g.edge false u v more).adj = g.adj := by unfold GC.edge; rw [q0]
    have hkeys := (GC.edge_keys (dir := false) (g := g) (u := u) (v := v) (more := more)).1
    have hu1 : u ∈ (g.edge false u v more).keys := by rw [hkeys]; exact hu
    have hv1 : v ∈ (g.edge false u v more).keys := by rw [hkeys]; exact hv
    have hru := g1.ad hu1
    have hrv := g1.ad hv1
    rw [hadj] at hru hrv
    refine as_cons (a1_setE (ae_pe (hdn _).pe ⟨.ref (loc (tAd gid u)), .int v, pe_row k (hs' _) (hx' _) g1.x g1.d g1.att.a g1.a hu1, (hy' _).pe, ?_⟩))
    refine SetOk.mono (set_dI hru (by rw [refs_length]; omega)) ?_
    rintro H2 rfl
    rw [put_refs_old (f := fun m => loc (tEd gid (ek false u m))) (hg.wf.adjn u) hmem, upd_eq hru]
    refine as_cons (a1_setE (ae_pe (hdn _).pe ⟨.ref (loc (tAd gid v)), .int u, pe_row k (hs' _) (hy' _) g1.x g1.d g1.att.a g1.a hv1, (hx' _).pe, ?_⟩))
    refine SetOk.mono (set_dI hrv (by rw [refs_length]; omega)) ?_
    rintro H2 rfl
    have := put_refs_old (f := fun m => loc (tEd gid (ek false v m))) (hg.wf.adjn v) hmem'
    rw [ek_comm v u] at this
    rw [this, upd_eq hrv]
    exact as_nil (q _ _ _ g1 (Same.refl _ _) f1)
  | none =>
    have hmem : v ∉ g.adj u := fun z => by have := (hg.wf.adjI u v).mp z; rw [q0] at this; cases this
    rw [if_neg hmem]
    refine hups _ d0 [] _ _ (Frame.new hd0) upd_same (by simp) ?_
    rw [upd_upd]
    have A0 := hg.at_.new (t := tEd gid (ek false u v)) (.dS (nums (mergeA [] more))) hd0 (by simp [wantG, q0])
    have hru := upd_new (x := (tEd gid (ek false u v), AObj.dS (nums (mergeA [] more)))) hd0 (hg.ad hu)
    refine as_cons (a1_setE (ae_pe (hdn _).pe ⟨.ref (loc (tAd gid u)), .int v, pe_row k (hs' _) (hx' _) (upd_new hd0 hg.x) (upd_new hd0 hg.d) hg.att.a (upd_new hd0 hg.a) hu, (hy' _).pe, ?_⟩))
    refine SetOk.mono (set_dI hru (by rw [refs_length]; omega)) ?_
    rintro H2 rfl
    have A1 := A0.upd (t := tAd gid u) (.dI (put (refs (fun m => loc (tEd gid (ek false u m))) (g.adj u)) v (.ref d0))) (by simp [wset, wantG, look_isSome.mpr hu])
    rw [lset_ne (by simp)] at A1
    have hx1 := upd_tag (x := (tAd gid u, AObj.dI (put (refs (fun m => loc (tEd gid (ek false u m))) (g.adj u)) v (.ref d0)))) hru (upd_new hd0 hg.x) (by simp)
    have hd1 := upd_tag (x := (tAd gid u, AObj.dI (put (refs (fun m => loc (tEd gid (ek false u m))) (g.adj u)) v (.ref d0)))) hru (upd_new hd0 hg.d) (by simp)
    have ha1 := upd_tag (x := (tAd gid u, AObj.dI (put (refs (fun m => loc (tEd gid (ek false u m))) (g.adj u)) v (.ref d0)))) hru (upd_new hd0 hg.a) (by simp)
    have hrv : upd (upd H d0 (tEd gid (ek false u v), .dS (nums (mergeA [] more)))) (loc (tAd gid u)) (tAd gid u, AObj.dI (put (refs (fun m => loc (tEd gid (ek false u m))) (g.adj u)) v (.ref d0))) (loc (tAd gid v)) = some (tAd gid v, .dI (if v = u then put (refs (fun m => loc (tEd gid (ek false u m))) (g.adj u)) v (.ref d0) else refs (fun m => loc (tEd gid (ek false v m))) (g.adj v))) := by
      by_cases e : v = u
      · subst e; rw [if_pos rfl]; exact upd_same
      · rw [if_neg e]; exact upd_tag hru (upd_new hd0 (hg.ad hv)) (by simpa using e)
    have hlen : (if v = u then put (refs (fun m => loc (tEd gid (ek false u m))) (g.adj u)) v (AV.ref d0) else refs (fun m => loc (tEd gid (ek false v m))) (g.adj v)).length < 1000 := by
      split
      · have := put_length (refs (fun m => loc (tEd gid (ek false u m))) (g.adj u)) v (AV.ref d0); rw [refs_length] at this; omega
      · rw [refs_length]; omega
    refine as_cons (a1_setE (ae_pe (hdn _).pe ⟨.ref (loc (tAd gid v)), .int u, pe_row k (hs' _) (hy' _) hx1 hd1 hg.att.a ha1 hv, (hx' _).pe, ?_⟩))
    refine SetOk.mono (set_dI hrv hlen) ?_
    rintro H3 rfl
    have A2 := A1.upd (t := tAd gid v) (.dI (put (if v = u then put (refs (fun m => loc (tEd gid (ek false u m))) (g.adj u)) v (.ref d0) else refs (fun m => loc (tEd gid (ek false v m))) (g.adj v)) u (.ref d0))) (by
      by_cases e : v = u
      · subst e; rw [wset_same]; simp
      · simp [wset, wantG, e, look_isSome.mpr hv])
    rw [lset_ne (by simp)] at A2
    have sm : Same gid loc (lset loc (tEd gid (ek false u v)) d0) := Same.set (by simp)
    refine as_nil (q _ _ d0 ⟨A2.weak (want_edge_u hg.wf hu hv q0), hg.att.same sm, hg.wf.edge hu hv hm, ?_⟩ sm ?_)
    all_goals have fr : Frame gid H _ := ((Frame.new hd0).trans (Frame.upd fun t o e => by rw [hru] at e; cases e; rfl)).trans (Frame.upd (a := loc (tAd gid v)) (x := (tAd gid v, .dI (put (if v = u then put (refs (fun m => loc (tEd gid (ek false u m))) (g.adj u)) v (.ref d0) else refs (fun m => loc (tEd gid (ek false v m))) (g.adj v)) u (.ref d0)))) fun t o e => by rw [hrv] at e; cases e; rfl)
    · exact hg.nv_keep fr sm
    · exact fr
theorem as_edge_d {x y dd : Str} {u v : Int} {more : List (Str × Int)} {ups : List Stmt} {p1 p2 p3 p4 p5 p6 p7 p8 p9 p10 p11 a1 a2 a3 a4 a5 a6 a7 a8 b1 b2 b3 b4 b5 b6 b7 b8 b9 : Pos} {Q : AFl → LM → AHeap → Prop} (k : Kls c true C CN) (rm : Rm A 1) (hg : GAt gid true C CN loc mm g H)
    (hs : Nm env m "self" (.ref (loc (tX gid)))) (hx : Nm env m x (.int u)) (hy : Nm env m y (.int v)) (hxd : x ≠ dd) (hyd : y ≠ dd) (hsd : (("self" : Str)) ≠ dd) (hdl : env.kindOf dd = some .local) (hdd : (dd == ("__debug__" : Str)) = false) (hu : u ∈ g.keys) (hv : v ∈ g.keys) (hm : SmK more)
    (hups : ∀ H1 d l rest Q', Frame gid H H1 → H1 d = some (tEd gid (ek true u v), .dS (nums l)) → l.length ≤ 3 → AS nf c A env (setm m dd (.ref d)) (upd H1 d (tEd gid (ek true u v), .dS (nums (mergeA l more)))) rest Q' E → AS nf c A env (setm m dd (.ref d)) H1 (ups ++ rest) Q' E)
    (q : ∀ loc' H' d, GAt gid true C CN loc' mm (g.edge true u v more) H' → Same gid loc loc' → Frame gid H H' → Q .next (setm m dd (.ref d)) H')
    (e1 : MCallA env (.Subscript (.Attribute (.Name "self" p1) "_adj" p2) (.Name x p3) p4) "get" p5 [.Name y p6, .Call (.Attribute (.Name "self" p7) "edge_attr_dict_factory" p8) [] [] p9] p10 := by exact ⟨_, rfl⟩)
    (e2 : MCall env (.Name "self" p7) "edge_attr_dict_factory" p8 p9 := by exact ⟨_, rfl⟩) :
    AS nf c A env m H (.Assign [.Name dd a1] (.Call (.Attribute (.Subscript (.Attribute (.Name "self" p1) "_adj" p2) (.Name x p3) p4) "get" p5) [.Name y p6, .Call (.Attribute (.Name "self" p7) "edge_attr_dict_factory" p8) [] [] p9] [] p10) p11 ::
      (ups ++ [.Assign [.Subscript (.Subscript (.Attribute (.Name "self" a2) "_succ" a3) (.Name x a4) a5) (.Name y a6) a7] (.Name dd a8) b8, .Assign [.Subscript (.Subscript (.Attribute (.Name "self" b1) "_pred" b2) (.Name y b3) b4) (.Name x b5) b6] (.Name dd b7) b9])) Q E := by
  have hk := hs.kind
  have hzu := hg.wf.adjc u
  have hzv := hg.wf.prdc rfl v
  refine as_cons (a1_assignE ?_ hdl hk)
  refine ae_bmeth F.slot_dict_get F.plainAttrs_dict F.type_dict_get (a := .ref (loc (tAd gid u))) (pe_row k hs hx hg.x hg.d hg.att.a hg.a hu) (plainly_dI (hg.ad hu)) ?_ rfl e1
  refine al_cons (ae_pe hy.pe ?_)
  refine al_cons (ae_fac (tEd gid (ek true u v)) (o0 := .dS []) rfl rm k.edgeF hs.pe hg.x hg.d (hg.att.other _ (by decide)) (he := e2) fun d0 hd0 => al_nil ?_)
  refine CallOk.mono (call_get_dI (upd_new hd0 (hg.ad hu))) ?_ fun _ _ z => z
  rintro w H1 ⟨rfl, rfl⟩
  rw [look_refs]
  have hs' := fun d => hs.set (w := .ref d) hsd
  have hx' := fun d => hx.set (w := .ref d) hxd
  have hy' := fun d => hy.set (w := .ref d) hyd
  have hdn : ∀ d, Nm env (setm m dd (.ref d)) dd (.ref d) := fun d => Nm.new hk hdl hdd
  cases q0 : g.eg (ek true u v) with
  | some old =>
    have hmem : v ∈ g.adj u := (hg.wf.adjI u v).mpr (by rw [q0]; rfl)
    have hmem' : u ∈ g.prd v := (hg.wf.prdI rfl u v).mpr (by rw [show g.eg (u, v) = some old from q0]; rfl)
    rw [if_pos hmem]
    refine AS.forget d0 ?_
    rw [drop_upd hd0]
    have hso := hg.wf.smE _ _ q0
    refine hups H _ old _ _ (Frame.refl _ _) (hg.ed q0) hso.length ?_
    have A1 := (hg.at_.upd (t := tEd gid (ek true u v)) (.dS (nums (mergeA old more))) (by simp [wantG, q0])).weak (want_edge_old q0)
    have f1 : Frame gid H (upd H (loc (tEd gid (ek true u v))) (tEd gid (ek true u v), .dS (nums (mergeA old more)))) := Frame.at hg.at_ (by simp [wantG, q0]) rfl
    have g1 : GAt gid true C CN loc mm (g.edge true u v more) _ := ⟨A1, hg.att, hg.wf.edge hu hv hm, hg.nv_keep f1 (Same.refl _ _)⟩
    have hadj : (g.edge true u v more).adj = g.adj := by unfold GC.edge; rw [q0]
    have hprd : (g.edge true u v more).prd = g.prd := by unfold GC.edge; rw [q0]
    have hkeys := (GC.edge_keys (dir := true) (g := g) (u := u) (v := v) (more := more)).1
    have hu1 : u ∈ (g.edge true u v more).keys := by rw [hkeys]; exact hu
    have hv1 : v ∈ (g.edge true u v more).keys := by rw [hkeys]; exact hv
    have hru := g1.ad hu1
    have hrv := g1.pd rfl hv1
    rw [hadj] at hru
    rw [hprd] at hrv
    refine as_cons (a1_setE (ae_pe (hdn _).pe ⟨.ref (loc (tAd gid u)), .int v, pe_row k (hs' _) (hx' _) g1.x g1.d (g1.att.s rfl) g1.a hu1, (hy' _).pe, ?_⟩))
    refine SetOk.mono (set_dI hru (by rw [refs_length]; omega)) ?_
    rintro H2 rfl
    rw [put_refs_old (f := fun m => loc (tEd gid (ek true u m))) (hg.wf.adjn u) hmem, upd_eq hru]
    refine as_cons (a1_setE (ae_pe (hdn _).pe ⟨.ref (loc (tPd gid v)), .int u, pe_row k (hs' _) (hy' _) g1.x g1.d (g1.att.p rfl) (g1.p rfl) hv1, (hx' _).pe, ?_⟩))
    refine SetOk.mono (set_dI hrv (by rw [refs_length]; omega)) ?_
    rintro H2 rfl
    have := put_refs_old (f := fun m => loc (tEd gid (m, v))) (hg.wf.prdn rfl v) hmem'
    rw [show put (refs (fun m => loc (tEd gid (m, v))) (g.prd v)) u (AV.ref (loc (tEd gid (ek true u v)))) = _ from this, upd_eq hrv]
    exact as_nil (q _ _ _ g1 (Same.refl _ _) f1)
  | none =>
    have hmem : v ∉ g.adj u := fun z => by have := (hg.wf.adjI u v).mp z; rw [q0] at this; cases this
    rw [if_neg hmem]
    refine hups _ d0 [] _ _ (Frame.new hd0) upd_same (by simp) ?_
    rw [upd_upd]
    have A0 := hg.at_.new (t := tEd gid (ek true u v)) (.dS (nums (mergeA [] more))) hd0 (by simp [wantG, q0])
    have hru := upd_new (x := (tEd gid (ek true u v), AObj.dS (nums (mergeA [] more)))) hd0 (hg.ad hu)
    refine as_cons (a1_setE (ae_pe (hdn _).pe ⟨.ref (loc (tAd gid u)), .int v, pe_row k (hs' _) (hx' _) (upd_new hd0 hg.x) (upd_new hd0 hg.d) (hg.att.s rfl) (upd_new hd0 hg.a) hu, (hy' _).pe, ?_⟩))
    refine SetOk.mono (set_dI hru (by rw [refs_length]; omega)) ?_
    rintro H2 rfl
    have A1 := A0.upd (t := tAd gid u) (.dI (put (refs (fun m => loc (tEd gid (ek true u m))) (g.adj u)) v (.ref d0))) (by simp [wset, wantG, look_isSome.mpr hu])
    rw [lset_ne (by simp)] at A1
    have hx1 := upd_tag (x := (tAd gid u, AObj.dI (put (refs (fun m => loc (tEd gid (ek true u m))) (g.adj u)) v (.ref d0)))) hru (upd_new hd0 hg.x) (by simp)
    have hd1 := upd_tag (x := (tAd gid u, AObj.dI (put (refs (fun m => loc (tEd gid (ek true u m))) (g.adj u)) v (.ref d0)))) hru (upd_new hd0 hg.d) (by simp)
    have hp1 := upd_tag (x := (tAd gid u, AObj.dI (put (refs (fun m => loc (tEd gid (ek true u m))) (g.adj u)) v (.ref d0)))) hru (upd_new hd0 (hg.p rfl)) (by simp)
    have hrv := upd_tag (x := (tAd gid u, AObj.dI (put (refs (fun m => loc (tEd gid (ek true u m))) (g.adj u)) v (.ref d0)))) hru (upd_new hd0 (hg.pd rfl hv)) (by simp)
    refine as_cons (a1_setE (ae_pe (hdn _).pe ⟨.ref (loc (tPd gid v)), .int u, pe_row k (hs' _) (hy' _) hx1 hd1 (hg.att.p rfl) hp1 hv, (hx' _).pe, ?_⟩))
    refine SetOk.mono (set_dI hrv (by rw [refs_length]; omega)) ?_
    rintro H3 rfl
    have A2 := A1.upd (t := tPd gid v) (.dI (put (refs (fun m => loc (tEd gid (m, v))) (g.prd v)) u (.ref d0))) (by simp [wset, wantG, look_isSome.mpr hv])
    rw [lset_ne (by simp)] at A2
    have sm : Same gid loc (lset loc (tEd gid (ek true u v)) d0) := Same.set (by simp)
    have fr : Frame gid H (upd (upd (upd H d0 (tEd gid (ek true u v), .dS (nums (mergeA [] more)))) (loc (tAd gid u)) (tAd gid u, .dI (put (refs (fun m => loc (tEd gid (ek true u m))) (g.adj u)) v (.ref d0)))) (loc (tPd gid v)) (tPd gid v, .dI (put (refs (fun m => loc (tEd gid (m, v))) (g.prd v)) u (.ref d0)))) :=
      ((Frame.new hd0).trans (Frame.upd fun t o e => by rw [hru] at e; cases e; rfl)).trans (Frame.upd fun t o e => by rw [hrv] at e; cases e; rfl)
    exact as_nil (q _ _ d0 ⟨A2.weak (want_edge_d hg.wf hu hv q0), hg.att.same sm, hg.wf.edge hu hv hm, hg.nv_keep fr sm⟩ sm fr)
end
end Nx
end
section
set_option autoImplicit false
namespace Nx
section
variable {nf : Bool} {c : Cx} {A : Around} {env : Env} {m : LM} {H : AHeap} {E : AV → LM → AHeap → Prop} {gid : Nat} {dir : Bool} {C CN : Addr} {loc : Loc} {mm : List (Str × AV)} {g : GC}
theorem a1_ensure_u {x : Str} {n : Int} {k0 : Nat} {t1 t2 t3 t4 t5 q1 q2 q3 q4 p1 p2 p3 p4 p5 p6 p7 p8 r1 r2 r3 r4 r5 r6 r7 r8 : Pos} {body : List Stmt} {Q : AFl → LM → AHeap → Prop} (k : Kls c false C CN) (rm : Rm A 1) (hg : GAt gid false C CN loc mm g H)
    (hs : Nm env m "self" (.ref (loc (tX gid)))) (hx : Nm env m x (.int n)) (h0 : 0 ≤ n) (h5 : n < 5)
    (q : ∀ loc' H', GAt gid false C CN loc' mm (g.node n) H' → Same gid loc loc' → Frame gid H H' → Q .next m H')
    (e1 : MCall env (.Name "self" p5) "adjlist_inner_dict_factory" p6 p7 := by exact ⟨_, rfl⟩) (e2 : MCall env (.Name "self" r5) "node_attr_dict_factory" r6 r7 := by exact ⟨_, rfl⟩) :
    A1 nf c A env m H (.If (.Compare (.Name x t1) [.NotIn] [.Attribute (.Name "self" t2) "_node" t3] t4) [.If (.Compare (.Name x q1) [.Is] [.Constant .none k0 q2] q3) body [] q4,
      .Assign [.Subscript (.Attribute (.Name "self" p1) "_adj" p2) (.Name x p3) p4] (.Call (.Attribute (.Name "self" p5) "adjlist_inner_dict_factory" p6) [] [] p7) p8,
      .Assign [.Subscript (.Attribute (.Name "self" r1) "_node" r2) (.Name x r3) r4] (.Call (.Attribute (.Name "self" r5) "node_attr_dict_factory" r6) [] [] r7) r8] [] t5) Q E := by
  refine a1_if (pb_cmp hx.pe (pe_own k hs.pe hg.x hg.d hg.att.n) (cmp_nin_dI hg.n)) ?_
  rw [look_refs]
  cases z : look g.nodes n with
  | some a =>
    have hk : n ∈ g.keys := look_isSome.mp (by rw [z]; rfl)
    rw [if_pos hk]
    refine as_nil ?_
    have := q loc H
    rw [GC.node_old (by rw [z]; rfl)] at this
    exact this hg (Same.refl _ _) (Frame.refl _ _)
  | none =>
    have hk : n ∉ g.keys := look_none.mp z
    rw [if_neg hk]
    exact as_node_u k rm hg hs hx z h0 h5 q e1 e2
theorem a1_ensure_d {x : Str} {n : Int} {k0 : Nat} {t1 t2 t3 t4 t5 q1 q2 q3 q4 p1 p2 p3 p4 p5 p6 p7 p8 s1 s2 s3 s4 s5 s6 s7 s8 r1 r2 r3 r4 r5 r6 r7 r8 : Pos} {body : List Stmt} {Q : AFl → LM → AHeap → Prop} (k : Kls c true C CN) (rm : Rm A 1) (hg : GAt gid true C CN loc mm g H)
    (hs : Nm env m "self" (.ref (loc (tX gid)))) (hx : Nm env m x (.int n)) (h0 : 0 ≤ n) (h5 : n < 5)
    (q : ∀ loc' H', GAt gid true C CN loc' mm (g.node n) H' → Same gid loc loc' → Frame gid H H' → Q .next m H')
    (e1 : MCall env (.Name "self" p5) "adjlist_inner_dict_factory" p6 p7 := by exact ⟨_, rfl⟩) (e2 : MCall env (.Name "self" s5) "adjlist_inner_dict_factory" s6 s7 := by exact ⟨_, rfl⟩) (e3 : MCall env (.Name "self" r5) "node_attr_dict_factory" r6 r7 := by exact ⟨_, rfl⟩) :
    A1 nf c A env m H (.If (.Compare (.Name x t1) [.NotIn] [.Attribute (.Name "self" t2) "_succ" t3] t4) [.If (.Compare (.Name x q1) [.Is] [.Constant .none k0 q2] q3) body [] q4,
      .Assign [.Subscript (.Attribute (.Name "self" p1) "_succ" p2) (.Name x p3) p4] (.Call (.Attribute (.Name "self" p5) "adjlist_inner_dict_factory" p6) [] [] p7) p8,
      .Assign [.Subscript (.Attribute (.Name "self" s1) "_pred" s2) (.Name x s3) s4] (.Call (.Attribute (.Name "self" s5) "adjlist_inner_dict_factory" s6) [] [] s7) s8,
      .Assign [.Subscript (.Attribute (.Name "self" r1) "_node" r2) (.Name x r3) r4] (.Call (.Attribute (.Name "self" r5) "node_attr_dict_factory" r6) [] [] r7) r8] [] t5) Q E := by
  refine a1_if (pb_cmp hx.pe (pe_own k hs.pe hg.x hg.d (hg.att.s rfl)) (cmp_nin_dI hg.a)) ?_
  rw [look_refs]
  cases z : look g.nodes n with
  | some a =>
    have hk : n ∈ g.keys := look_isSome.mp (by rw [z]; rfl)
    rw [if_pos hk]
    refine as_nil ?_
    have := q loc H
    rw [GC.node_old (by rw [z]; rfl)] at this
    exact this hg (Same.refl _ _) (Frame.refl _ _)
  | none =>
    have hk : n ∉ g.keys := look_none.mp z
    rw [if_neg hk]
    exact as_node_d k rm hg hs hx z h0 h5 q e1 e2 e3
/-- d.update(o): a statement -/
theorem a1_update {x y : Str} {d o : Addr} {t t' : Tag} {l more : List (Str × Int)} {p1 p2 p3 p4 p5 : Pos} {Q : AFl → LM → AHeap → Prop} (hx : Nm env m x (.ref d)) (hy : Nm env m y (.ref o)) (hd : H d = some (t, .dS (nums l))) (ho : H o = some (t', .dS (nums more))) (ht : t ≠ t') (hz : l.length + more.length ≤ 1000)
    (q : Q .next m (upd H d (t, .dS (nums (mergeA l more))))) (e : MCallA env (.Name x p1) "update" p2 [.Name y p3] p4 := by exact ⟨_, rfl⟩) (hi : interactive env = false := by rfl)
    (hs : swapsWith (.Call (.Attribute (.Name x p1) "update" p2) [.Name y p3] [] p4) none p5.line env = pure false := by rfl) : A1 nf c A env m H (.Expr (.Call (.Attribute (.Name x p1) "update" p2) [.Name y p3] [] p4) p5) Q E := by
  have hne : d ≠ o := fun e => by rw [e, ho] at hd; exact ht (congrArg Prod.fst (Option.some.inj hd)).symm
  refine a1_expr ?_ hi hs
  refine ae_bmeth F.slot_dict_update F.plainAttrs_dict F.type_dict_update (a := .ref d) hx.pe (plainly_dS hd) ?_ rfl e
  refine al_cons (ae_pe hy.pe (al_nil ?_))
  refine CallOk.mono (call_update hd ho hne (by have := mergeA_length (nums more) (nums l); rw [nums_length, nums_length] at this; omega)) ?_ fun _ _ z => z
  rintro v H' ⟨rfl, rfl⟩
  rw [merge_nums]
  exact ⟨rfl, q⟩
end
end Nx
end
section
set_option autoImplicit false
namespace Nx
/-- what next() gives, in so many words -/
def NextOk (c : Cx) (A : Around) (H : AHeap) (it : Value) (K : Option AV → AHeap → Prop) : Prop :=
  ∀ W s fs, Ok c W s H → A.frames = some fs → FF c W s.heap H fs → wpAny c.M A (pyNext it) (fun o s' => ∃ W' H' r, Post c W s H W' s' H' ∧ OV W' o r ∧ K r H') (fun _ _ => False) s
theorem NextIs.ok {c : Cx} {A : Around} {H H' : AHeap} {it : Value} {r : Option AV} {K : Option AV → AHeap → Prop} (h : NextIs c A H it r H') (k : K r H') : NextOk c A H it K := fun W s fs ok hA hff =>
  wpAny_mono (h W s fs ok hA hff) (fun _ _ ⟨W', p, r'⟩ => ⟨W', H', r, p, r', k⟩) fun _ _ z => z
theorem NextOk.mono {c : Cx} {A : Around} {H : AHeap} {it : Value} {K K' : Option AV → AHeap → Prop} (h : NextOk c A H it K) (k : ∀ r H', K r H' → K' r H') : NextOk c A H it K' := fun W s fs ok hA hff =>
  wpAny_mono (h W s fs ok hA hff) (fun _ _ ⟨W', H', r, p, r', q⟩ => ⟨W', H', r, p, r', k _ _ q⟩) fun _ _ z => z
section
variable {nf : Bool} {c : Cx} {A : Around} {env : Env} {m : LM} {H : AHeap} {E : AV → LM → AHeap → Prop} {W : WM} {s : Shared}
theorem a1_forK {target iter : Expr} {body : List Stmt} {pos : Pos} {Q : AFl → LM → AHeap → Prop} (hi : AE nf c A env m H iter (fun v m' H' => IterOk nf c A H' v (fun it H'' => ∃ Inv : Nat → LM → AHeap → Prop, (∃ k, Inv k m' H'') ∧
      ∀ k m₁ H₁, Inv k m₁ H₁ → NextOk c A H₁ (.ref it) (fun r H₂ => match r with
        | none => Q .next m₁ H₂
        | some x => Asg c A env m₁ H₂ target (.ref it) x (fun m₂ H₃ => AS nf c A env m₂ H₃ body (fun fl m₃ H₄ => match fl with
          | .next => ∃ j, j < k ∧ Inv j m₃ H₄
          | .cont => ∃ j, j < k ∧ Inv j m₃ H₄
          | .brk => Q .next m₃ H₄
          | .ret a => Q (.ret a) m₃ H₄) (fun _ _ _ => False))))) E)
    (hs : ∀ x, foldedSetIterable iter env x = pure x := by intro _; rfl) : A1 nf c A env m H (.For target iter body [] pos) Q E := .mk fun W s ok fo => by
  refine wpN_For (AG.run hi.ag ok fo fun W1 s1 m1 H1 u v p1 f1 r1 hit => ?_) hs
  refine wpN_mono (hit W1 s1 u p1.ok r1) (fun o s2 ⟨W2, H2, it, ho, p2, Inv, ⟨k0, h0⟩, turn⟩ => ?_) fun _ _ z => z.elim
  subst ho
  have f2 := f1.keep p2
  have p12 := p1.trans (p2.x _)
  refine codeN_forLoop (I := fun k s' => ∃ W' H' m', PostX c env.locals W s H W' s' H' ∧ Fo c W' s' H' env A m' ∧ Inv k m' H') (fun k s3 ⟨W3, H3, m3, p3, f3, hI⟩ => ?_) k0 ⟨W2, H2, m1, p12, f2, h0⟩
  refine wpN_mono (wpN_of (turn k m3 H3 hI W3 s3 _ p3.ok f3.ff.choose_spec.1 f3.ff.choose_spec.2)) (fun o s4 ⟨W4, H4, r, p4, r4, ha⟩ => ?_) fun _ _ z => z.elim
  cases r with
  | none =>
    obtain rfl := r4.none
    exact ⟨W4, H4, m3, .next, p3.trans (p4.x _), f3.keep p4, rfl, ha⟩
  | some x =>
    obtain ⟨y, rfl, r⟩ := r4.some
    have f4 := f3.keep p4
    refine wpN_mono (wpN_of ((show Asg c A env m3 H4 target (.ref it) x _ from ha) W4 s4 y p4.ok f4 r)) (fun _ s5 h5 => ?_) fun _ _ z => z.elim
    refine wpN_mono (wpN_of h5) (fun _ s6 ⟨W6, H6, m6, p6, f6, hb⟩ => ?_) fun _ _ z => z.elim
    have p36 := (p3.trans (p4.x _)).trans p6
    refine wpN_mono (hb.ag W6 s6 p6.ok f6) (fun fl s7 ⟨W7, H7, m7, y, p7, f7, r7, q7⟩ => ?_) fun _ _ ⟨_, _, _, _, _, _, _, z⟩ => z.elim
    cases y with
    | next => obtain rfl : fl = .next := r7; obtain ⟨j, hj, hI'⟩ := q7; exact ⟨j, hj, W7, H7, m7, p36.trans p7, f7, hI'⟩
    | cont => obtain rfl : fl = .cont := r7; obtain ⟨j, hj, hI'⟩ := q7; exact ⟨j, hj, W7, H7, m7, p36.trans p7, f7, hI'⟩
    | brk => obtain rfl : fl = .brk := r7; exact ⟨W7, H7, m7, .next, p36.trans p7, f7, rfl, q7⟩
    | ret a => obtain ⟨v, rfl, r⟩ := r7; exact ⟨W7, H7, m7, .ret a, p36.trans p7, f7, ⟨v, rfl, r⟩, q7⟩

/-- a source of items, that stands when a graph turns -/
structure Src (c : Cx) (k gid sid : Nat) (it : Addr) (n : Nat) (item : Nat → AV → AHeap → Prop) (Inv : Nat → AHeap → Prop) : Prop where
  step : ∀ A i H, Rm A k → i < n → Inv i H → NextOk c A H (.ref it) (fun r H' => ∃ x, r = some x ∧ item i x H' ∧ Inv (i + 1) H' ∧ Frame sid H H')
  fin : ∀ A H, Rm A k → Inv n H → NextOk c A H (.ref it) (fun r H' => r = none ∧ Frame sid H H')
  stab : ∀ i H H', Inv i H → Frame gid H H' → Inv i H'
/-- a list, as such a source -/
theorem src_list {gid sid : Nat} {k : Nat} {it l : Addr} {t : Tag} {vs : List AV} (ht : t.own ≠ gid) (ht0 : t.own ≠ xo) (hs : sid ≠ gid) (hs0 : sid ≠ xo) (hts : t.own ≠ sid) (P : AHeap → Prop) (hP : ∀ H H', P H → Frame gid H H' → P H') (hP' : ∀ H H', P H → Frame sid H H' → P H') :
    Src c k gid sid it vs.length (fun i x H => vs[i]? = some x ∧ P H) (fun i H => H it = some (⟨sid, 0, []⟩, listIt l i) ∧ H l = some (t, .list vs) ∧ P H) where
  step A i H rm hi := fun ⟨h1, h2, h3⟩ => by
    obtain ⟨x, hx⟩ : ∃ x, vs[i]? = some x := ⟨vs[i], by simp [hi]⟩
    have f : Frame sid H (upd H it (⟨sid, 0, []⟩, listIt l (i + 1))) := Frame.upd fun t o e => by rw [h1] at e; cases e; rfl
    exact (next_list_item h1 h2 hx).ok ⟨x, rfl, ⟨hx, hP' _ _ h3 f⟩, ⟨upd_same, f _ _ _ h2 hts ht0, hP' _ _ h3 f⟩, f⟩
  fin A H rm := fun ⟨h1, h2, h3⟩ => (next_list_end rm.h h1 h2 (by simp)).ok ⟨rfl, fun b t o hb n1 _ => drop_of (fun e => by rw [e, h1] at hb; cases hb; exact n1 rfl) hb⟩
  stab i H H' := fun ⟨h1, h2, h3⟩ f => ⟨f _ _ _ h1 hs hs0, f _ _ _ h2 ht ht0, hP _ _ h3 f⟩
end
end Nx
end
section
set_option autoImplicit false
namespace Nx
/-! ### a vertex's numbers -/
def GC.attr (g : GC) (n : Int) (more : List (Str × Int)) : GC := { g with nodes := put g.nodes n (mergeA ((look g.nodes n).getD []) more) }
theorem GC.attr_keys {g : GC} {n : Int} {more : List (Str × Int)} (h : n ∈ g.keys) : (g.attr n more).keys = g.keys := put_keys_old _ (by
  have := look_isSome.mpr h
  intro e; rw [e] at this; cases this)
theorem Wf.attr {dir : Bool} {g : GC} (h : Wf dir g) {n : Int} {more : List (Str × Int)} (hn : n ∈ g.keys) (hm : SmK more) : Wf dir (g.attr n more) := by
  have hk := GC.attr_keys (more := more) hn
  refine ⟨by rw [hk]; exact h.nod, by rw [hk]; exact h.rng, h.adjn, h.adjI, h.prdn, h.prdI, fun k hk' => by rw [hk]; exact h.egk k hk', h.egc, fun m a hm' => ?_, h.smE, h.smW⟩
  have hm2 : look (put g.nodes n (mergeA ((look g.nodes n).getD []) more)) m = some a := hm'
  by_cases e : m = n
  · subst e
    rw [look_put_same] at hm2
    cases hm2
    refine Small.merge ?_ hm
    cases q : look g.nodes m with
    | none => exact Small.nil
    | some o => exact h.smN _ _ q
  · rw [look_put_ne _ _ e] at hm2; exact h.smN m a hm2
theorem want_attr {gid : Nat} {dir : Bool} {C : Addr} {loc : Loc} {mm : List (Str × AV)} {g : GC} {n : Int} {more : List (Str × Int)} (hn : n ∈ g.keys) (t : Tag) (o : AObj) (h : wantG gid dir C loc mm (g.attr n more) t = some o) :
    wset (wantG gid dir C loc mm g) (tNd gid n) (.dS (nums (mergeA ((look g.nodes n).getD []) more))) t = some o := by
  have hk := GC.attr_keys (more := more) hn
  have hl : ∀ m, (look (g.attr n more).nodes m).isSome = (look g.nodes m).isSome := fun m => by
    show (look (put g.nodes n _) m).isSome = _
    by_cases e : m = n
    · subst e; rw [look_put_same]; exact (look_isSome.mpr hn).symm
    · rw [look_put_ne _ _ e]
  obtain ⟨own, role, key⟩ := t
  unfold wantG at h
  dsimp only at h
  by_cases e : own = gid
  · subst e
    rw [if_pos rfl] at h
    split at h
    all_goals try rw [hk] at h
    all_goals try rw [hl] at h
    all_goals first
      | (simpa [wset, wantG, GC.attr] using h; done)
      | skip
    · rename_i m
      by_cases z : m = n
      · subst z
        have : look (g.attr m more).nodes m = some (mergeA ((look g.nodes m).getD []) more) := look_put_same _ _ _
        rw [this] at h
        simpa [wset] using h
      · have : look (g.attr n more).nodes m = look g.nodes m := look_put_ne _ _ z
        rw [this] at h
        simpa [wset, wantG, z] using h
    all_goals cases h
  · rw [if_neg e] at h; cases h
section
variable {nf : Bool} {c : Cx} {A : Around} {env : Env} {m : LM} {H : AHeap} {E : AV → LM → AHeap → Prop} {gid : Nat} {dir : Bool} {C CN : Addr} {loc : Loc} {mm : List (Str × AV)} {g : GC}
theorem GAt.keeps {H' : AHeap} (h : GAt gid dir C CN loc mm g H) (k : Keeps H H') (h0 : gid ≠ xo) : GAt gid dir C CN loc mm g H' := h.frame (Frame.keeps (gid := gid + 5000) k) (by omega) (by unfold vid; omega) h0
/-- self._node[n].update(newdict) -/
theorem a1_attr {x y : Str} {n : Int} {o : Addr} {t : Tag} {more : List (Str × Int)} {p1 p2 p3 p4 p5 p6 p7 p8 : Pos} {Q : AFl → LM → AHeap → Prop} (k : Kls c dir C CN) (hg : GAt gid dir C CN loc mm g H) (hs : Nm env m "self" (.ref (loc (tX gid)))) (hx : Nm env m x (.int n)) (hy : Nm env m y (.ref o))
    (hn : n ∈ g.keys) (ho : H o = some (t, .dS (nums more))) (ht : t.own ≠ gid) (hm : SmK more) (hz : more.length ≤ 100)
    (q : ∀ H', GAt gid dir C CN loc mm (g.attr n more) H' → Frame gid H H' → Q .next m H')
    (e : MCallA env (.Subscript (.Attribute (.Name "self" p1) "_node" p2) (.Name x p3) p4) "update" p5 [.Name y p6] p7 := by exact ⟨_, rfl⟩) (hi : interactive env = false := by rfl)
    (hsw : swapsWith (.Call (.Attribute (.Subscript (.Attribute (.Name "self" p1) "_node" p2) (.Name x p3) p4) "update" p5) [.Name y p6] [] p7) none p8.line env = pure false := by rfl) :
    A1 nf c A env m H (.Expr (.Call (.Attribute (.Subscript (.Attribute (.Name "self" p1) "_node" p2) (.Name x p3) p4) "update" p5) [.Name y p6] [] p7) p8) Q E := by
  obtain ⟨old, ho'⟩ := Option.isSome_iff_exists.mp (look_isSome.mpr hn)
  have hd := hg.nd ho'
  have hso := (hg.wf.smN _ _ ho').length
  have hne : loc (tNd gid n) ≠ o := fun e => by rw [e, ho] at hd; have e2 : t = tNd gid n := congrArg Prod.fst (Option.some.inj hd); exact ht (by rw [e2])
  refine a1_expr ?_ hi hsw
  refine ae_bmeth F.slot_dict_update F.plainAttrs_dict F.type_dict_update (a := .ref (loc (tNd gid n))) (pe_row k hs hx hg.x hg.d hg.att.n hg.n hn) (plainly_dS hd) ?_ rfl e
  refine al_cons (ae_pe hy.pe (al_nil ?_))
  refine CallOk.mono (call_update hd ho hne (by have := mergeA_length (nums more) (nums old); rw [nums_length, nums_length] at this; omega)) ?_ fun _ _ z => z
  rintro v H' ⟨rfl, rfl⟩
  rw [merge_nums]
  have A1 := hg.at_.upd (t := tNd gid n) (.dS (nums (mergeA old more))) (by simp [wantG, ho'])
  have e1 : mergeA old more = mergeA ((look g.nodes n).getD []) more := by rw [ho']; rfl
  rw [e1] at A1 ⊢
  have f1 : Frame gid H (upd H (loc (tNd gid n)) (tNd gid n, .dS (nums (mergeA ((look g.nodes n).getD []) more)))) := Frame.at hg.at_ (by simp [wantG, ho']) rfl
  exact ⟨rfl, q _ ⟨A1.weak (want_attr hn), hg.att, hg.wf.attr hn hm, hg.nv_keep f1 (Same.refl _ _)⟩ f1⟩
end
end Nx
end
section
set_option autoImplicit false
namespace Nx
theorem At.get {loc : Loc} {want : Want} {H : AHeap} {t : Tag} {o : AObj} {a : Addr} (h : At loc want H) (hw : want t = some o) (hl : loc t = a) : H a = some (t, o) := hl ▸ h t o hw
def GC.empty : GC := ⟨[], [], fun _ => [], fun _ => [], fun _ => none⟩
theorem Wf.empty (dir : Bool) : Wf dir GC.empty where
  nod := .nil
  rng := fun _ h => nomatch h
  adjn := fun _ => .nil
  adjI := fun u v => ⟨fun h => (nomatch h), fun h => (nomatch h)⟩
  prdn := fun _ _ => .nil
  prdI := fun _ u v => ⟨fun h => (nomatch h), fun h => (nomatch h)⟩
  egk := fun _ h => nomatch h
  egc := fun _ h => nomatch h
  smN := fun _ _ h => nomatch h
  smE := fun _ _ h => nomatch h
  smW := Small.nil
section
variable {nf : Bool} {c : Cx} {A : Around} {env : Env} {m : LM} {H : AHeap} {E : AV → LM → AHeap → Prop} {gid : Nat} {dir : Bool} {C CN : Addr} {loc : Loc} {mm : List (Str × AV)} {g : GC} {want : Want}
/-- self.name = self.factory() -/
theorem a1_setfac {x d : Addr} {l : List (Str × AV)} {fn name : Str} {t0 : Tag} {o0 : AObj} {p1 p2 p3 p4 p5 p6 : Pos} {Q : AFl → LM → AHeap → Prop} (k : Kls c dir C CN) (rm : Rm A 1) (hA : At loc want H) (hs : Nm env m "self" (.ref x)) (hx : loc (tX gid) = x) (hd : loc (tD gid) = d)
    (wx : want (tX gid) = some (.inst C d)) (wd : want (tD gid) = some (.nS l)) (w0 : want t0 = none) (h0 : NoEntries o0) (hf : ∃ f, MethIs c C fn f ∧ Fac c f) (hl : look l fn = none) (hz : l.length < 100) (hn : name ∈ (["graph", "_node", "_adj", "_succ", "_pred"] : List Str))
    (q : ∀ a H', At (lset loc t0 a) (wset (wset want t0 o0) (tD gid) (.nS (put l name (.ref a)))) H' → (∀ G, t0.own = G → gid = G → Frame G H H') → Q .next m H')
    (e1 : MCall env (.Name "self" p3) fn p4 p5 := by exact ⟨_, rfl⟩) (hsw : swapsWith (.Call (.Attribute (.Name "self" p3) fn p4) [] [] p5) (some (.Attribute (.Name "self" p1) name p2)) p6.line env = pure false := by rfl) :
    A1 nf c A env m H (.Assign [.Attribute (.Name "self" p1) name p2] (.Call (.Attribute (.Name "self" p3) fn p4) [] [] p5) p6) Q E := by
  have tx : t0 ≠ tX gid := fun e => by rw [e, wx] at w0; cases w0
  have td : t0 ≠ tD gid := fun e => by rw [e, wd] at w0; cases w0
  have gx := hA.get wx hx
  have gd := hA.get wd hd
  refine a1_setattr (x := x) (C := C) (d := d) (t := tX gid) (t' := tD gid) (l := fun _ _ => l) k.sets (k.tk _ hn) (ae_fac t0 h0 rm hf hs.pe gx gd hl (he := e1) fun a ha => ?_) hsw
  have A1 := hA.new o0 ha w0
  refine ⟨hs.pe, upd_new ha gx, upd_new ha gd, by omega, q a _ ?_ fun G g1 g2 => (Frame.new ha).trans (Frame.upd fun t o e => by rw [upd_new ha gd] at e; cases e; exact g2)⟩
  have A2 := A1.upd (t := tD gid) (.nS (put l name (.ref a))) (by rw [wset_ne td.symm, wd]; exact fun z => nomatch z)
  rw [lset_ne td.symm, hd] at A2
  exact A2
/-- self.name = self.other -/
theorem a1_setown {x d a : Addr} {l : List (Str × AV)} {on name : Str} {p1 p2 p3 p4 p6 : Pos} {Q : AFl → LM → AHeap → Prop} (k : Kls c dir C CN) (hA : At loc want H) (hs : Nm env m "self" (.ref x)) (hx : loc (tX gid) = x) (hd : loc (tD gid) = d)
    (wx : want (tX gid) = some (.inst C d)) (wd : want (tD gid) = some (.nS l)) (hl : look l on = some (.ref a)) (hz : l.length < 100) (hn : name ∈ (["graph", "_node", "_adj", "_succ", "_pred"] : List Str)) (ho : on ∈ (["graph", "_node", "_adj", "_succ", "_pred", "nodes", "adj"] : List Str))
    (q : ∀ H', At loc (wset want (tD gid) (.nS (put l name (.ref a)))) H' → Frame gid H H' → Q .next m H')
    (hsw : swapsWith (.Attribute (.Name "self" p3) on p4) (some (.Attribute (.Name "self" p1) name p2)) p6.line env = pure false := by rfl) :
    A1 nf c A env m H (.Assign [.Attribute (.Name "self" p1) name p2] (.Attribute (.Name "self" p3) on p4) p6) Q E := by
  have gx := hA.get wx hx
  have gd := hA.get wd hd
  refine a1_setattr (x := x) (C := C) (d := d) (t := tX gid) (t' := tD gid) (l := fun _ _ => l) k.sets (k.tk _ hn) (ae_pe (v := .ref a) (pe_own k hs.pe gx gd hl ho) ?_) hsw
  refine ⟨hs.pe, gx, gd, by omega, q _ ?_ (Frame.upd fun t o e => by rw [gd] at e; cases e; rfl)⟩
  have A2 := hA.upd (t := tD gid) (.nS (put l name (.ref a))) (by rw [wd]; exact fun z => nomatch z)
  rw [hd] at A2
  exact A2
end
end Nx
end
section
set_option autoImplicit false
namespace Nx
section
variable {nf : Bool} {c : Cx} {A : Around} {env : Env} {m : LM} {H : AHeap} {E : AV → LM → AHeap → Prop} {W : WM} {s : Shared}
/-- a comparison's value; the sides may raise -/
theorem ae_cmpE {l r : Expr} {op : CmpOp} {pos : Pos} {Q : AV → LM → AHeap → Prop} (hl : AE nf c A env m H l (fun a m1 H1 => AE nf c A env m1 H1 r (fun b m2 H2 => ∃ v, CmpF c A env m2 H2 op a b v ∧ Q (.bool v) m2 H2) E) E) (hm : behindInMarks op r = false := by rfl) :
    AE nf c A env m H (.Compare l [op] [r] pos) Q E := .mk fun W s ok fo => by
  show wpN _ _ _ (eval (.Compare l [op] [r] pos) env) _ _ _
  rw [eval_Compare1, markedBehindIn_of_false hm]
  refine wpN_bind (AG.run hl.ag ok fo fun W1 s1 m1 H1 u a p1 f1 r1 q1 => ?_)
  refine wpN_bind (wpN_holding (AG.both q1.ag p1.ok f1 (fun W2 s2 m2 H2 x b p2 f2 r2 ⟨v, hc, q⟩ => ?_) fun W2 s2 m2 H2 y z p2 f2 r2 q2 => ⟨W2, H2, m2, z, p1.trans p2, f2, r2, q2⟩))
  refine wpN_bind (wpN_standAt (wpN_operate (wpN_of (wpAny_mono (hc W2 s2 u x p2.ok f2 (r1.mono p2.ext) r2) (fun y s3 ⟨W3, p3, r3⟩ => ⟨W3, H2, m2, .bool v, (p1.trans p2).trans (p3.x _), f2.keep p3, r3, q⟩) fun _ _ z => z.elim))))
end
end Nx
end
section
set_option autoImplicit false
namespace Nx
theorem nolen_ki : typeLookup (.type "dict_keyiterator") "__len__" = pure none := by rw [typeLookup_type, builtinLookup_eq_fast]; kernel_rfl
theorem hint_ki : typeLookup (.type "dict_keyiterator") "__length_hint__" = pure (some (.builtin "dict_keyiterator.__length_hint__")) := by rw [typeLookup_type, builtinLookup_eq_fast]; kernel_rfl
theorem sub_ki : isSubtype (.type "dict_keyiterator") (.type "dict_keyiterator") = pure true := by rw [isSubtype_type]; kernel_rfl
section
variable {prog : Program} {w : World} {A : Around} {E : Value → Shared → Prop} {s : Shared} {I : Addr} {fp wr : List Addr} {G : Array GenState → Array GenState → Prop} {n : Nat} {P : Nat → Value → Prop} {St : Nat → Shared → Prop}
theorem collect_keyiter {Q : List Value → Shared → Prop}
    (W : WalksS prog w A.in1 I fp wr G n P St) (hT : ∀ i s, St i s → s.TypeIs (.ref I) "dict_keyiterator") (hst : St 0 s) (hfp : ∀ b ∈ fp, b < s.heap.objs.size) (hI : I ∈ fp)
    (hQ : ∀ s' acc, Moved wr G s s' → ItemsOf P acc n → Q acc.toList s') (hn : n ≤ sizeLine) : wpAny (model prog w) A (collect (.ref I)) Q E s := by
  have hSf : s.heap.objs.size ∉ fp := fun hm => Nat.lt_irrefl _ (hfp _ hm)
  have hSI : s.heap.objs.size ≠ I := fun e => hSf (e ▸ hI)
  unfold collect
  refine wpAny_bind (wpAny_runValue (codeAny_builtin F.entry_proto_collect ?_))
  rw [Around.under_plainId F.plain_proto_collect _]
  show wpAny _ A.in1 (newList [] >>= fun l => again (.builtin "list.__iadd__" ⟨[l, .ref I], []⟩)) _ _ s
  refine wpAny_bind (wpAny_newObj_type ?_)
  refine wpAny_pure ⟨plainId_quiet F.plain_list_iadd _, codeAny_builtin F.entry_list_iadd ?_⟩
  rw [Around.under_plainId F.plain_list_iadd _]
  have hst₁ := W.frame 0 s (s.heap.push { cls := .type "list", data := .seq ([] : List Value).toArray }) s.toks hst (Nat.le_refl _) fun b _ o e => Heap.get?_push_of_some _ e
  have hS₁ : (s.heap.push { cls := .type "list", data := .seq ([] : List Value).toArray }).get? s.heap.objs.size = some { cls := .type "list", data := .seq ([] : List Value).toArray } := Heap.get?_push_size _ rfl
  have h1 : Builtin.List.listSameRef (.ref s.heap.objs.size) (.ref I) = false := by simp [Builtin.List.listSameRef, hSI]
  show wpAny _ A.in1 (Builtin.List.listExtendWith (.ref s.heap.objs.size) (.ref I) (.ref s.heap.objs.size)) _ _ _
  unfold Builtin.List.listExtendWith
  refine wpAny_bind (wpAny_typeOf (hT 0 _ hst₁) ?_)
  rw [if_neg (by rw [h1]; decide)]
  refine wpAny_bind (W.self 0 _ _ _ hst₁ ?_)
  refine wpAny_bind (wpAny_holding ?_)
  unfold Builtin.List.listLengthHint
  refine wpAny_bind (wpAny_specialOf (hT 0 _ hst₁) nolen_ki ?_)
  show wpAny _ A.in1 (specialOf (Value.ref I) (Str.ofString "__length_hint__") >>= _) _ _ _
  refine wpAny_bind (wpAny_specialOf (hT 0 _ hst₁) hint_ki ?_)
  generalize hid : ("dict_keyiterator.__length_hint__" : String) = id0
  (fail_if_success (clear hid id0))
  wp_delta
  rw [show splitId id0 = some ("dict_keyiterator", "__length_hint__") from by subst hid; decide +kernel]
  subst hid
  refine wpAny_bind (wpAny_isInstance (b := true) (hT 0 _ hst₁) sub_ki ?_)
  refine wpAny_pure ?_
  rw [if_neg (by decide)]
  refine wpAny_pure ⟨plainId_quiet F.plain_extend_loop _, codeAny_extend_loopS W hn _ hSf _ n 0 _ _ _ rfl (Nat.zero_le _) hst₁ hS₁ (ItemsOf.nil P) fun s' acc' c' hm hS' hacc => ?_⟩
  show wpAny _ A (load s.heap.objs.size >>= _) _ _ s'
  refine wpAny_bind (wpAny_load hS' ?_)
  exact wpAny_pure (hQ s' acc' (Moved.drop_new (o := { cls := .type "list", data := .seq ([] : List Value).toArray }) (tk := s.toks) hm (Nat.le_refl _)) hacc)
/-- sorted, once the items are there -/
theorem sorted_of {x : Value} {Q : Value → Shared → Prop} (h : wpAny (model prog w) A.in1 (collect x) (fun vs s₁ => ∃ ns, IntsAre vs ns ∧ vs.length < 64 ∧ ∀ (h' : Heap) (a : Addr) (out : Array Value) (ns' : List Int) (e : Nat), (∀ b o, s₁.heap.get? b = some o → h'.get? b = some o) → s₁.heap.objs.size ≤ h'.objs.size → s₁.heap.objs.size = a → h'.get? a = some (seqObj "list" out e) → IntsAre out.toList ns' → ns'.Perm ns → ns'.Pairwise (· ≤ ·) → Q (.ref a) { s₁ with heap := h' }) E s) :
    wpAny (model prog w) A (call (.builtin "sorted") [x]) Q E s := by
  refine Calls.call_function_entry kind_sorted plain_sorted entry_sorted (args_sorted1 _) ?_
  unfold Builtin.«sorted»
  refine wpAny_bind (m := checkCount "sorted" 1 1 _) (wpAny_pure ?_)
  refine wpAny_bind (wpAny_mono h (fun vs s₁ ⟨ns, hI, h64, hq⟩ => ?_) fun _ _ e => e)
  refine wpAny_bind (wpAny_newList ?_)
  have hoL : (s₁.heap.push (seqObj "list" vs.toArray 0)).get? s₁.heap.objs.size = some (seqObj "list" vs.toArray 0) := Heap.get?_push_size _ rfl
  refine wpAny_bind (wpAny_holding (wpAny_call_entry slot_list_sort ⟨_, hoL, rfl⟩ entry_list_sort (list_sort_tree hoL hI h64 fun out ns' a1 a2 a3 => ⟨_, rfl, ?_⟩) (args_list_sort _)))
  obtain ⟨e, he⟩ := sortedHeap_at (out := out) hoL
  have hz : (sortedHeap (s₁.heap.push (seqObj "list" vs.toArray 0)) s₁.heap.objs.size vs out).objs.size = s₁.heap.objs.size + 3 := by
    unfold sortedHeap
    rw [Heap.size_update, size_push', size_push', Heap.size_update, size_push']
  refine wpAny_pure ⟨_, rfl, hq (sortedHeap (s₁.heap.push (seqObj "list" vs.toArray 0)) s₁.heap.objs.size vs out) _ out ns' e (fun b o hb => ?_) (Nat.le_trans (Nat.le_add_right _ 3) (Nat.le_of_eq hz.symm)) rfl he a1 a2 a3⟩
  have hlt := Heap.lt_size hb
  rw [sortedHeap_old (Nat.ne_of_lt hlt) (by rw [size_push']; exact Nat.lt_succ_of_lt hlt), Heap.get?_push_ne _ _ _ (Nat.ne_of_lt hlt)]
  exact hb
end
end Nx
end
section
set_option autoImplicit false
namespace Nx
theorem ints_of : ∀ {vs : List Value} {ks : List Int}, vs.length = ks.length → (∀ (j : Nat) (v : Value), vs[j]? = some v → ∃ (k : Int) (t : Tok), ks[j]? = some k ∧ v = .int k t) → IntsAre vs ks
  | [], [], _, _ => .nil
  | [], _ :: _, h, _ => by cases h
  | _ :: _, [], h, _ => by cases h
  | v :: vs, k :: ks, h, hp => by
    obtain ⟨k', t, h1, rfl⟩ := hp 0 v rfl
    obtain rfl : k = k' := Option.some.inj h1
    exact .cons k t (ints_of (by simpa using h) fun j v hj => hp (j + 1) v hj)
theorem ints_vr {W : WM} : ∀ {vs : List Value} {ns : List Int}, IntsAre vs ns → All2 (VR W) vs (ns.map AV.int)
  | _, _, .nil => .nil
  | _, _, .cons n t h => .cons ⟨t, rfl⟩ (ints_vr h)
theorem ints_len : ∀ {vs : List Value} {ns : List Int}, IntsAre vs ns → vs.length = ns.length
  | _, _, .nil => rfl
  | _, _, .cons n t h => by simp [ints_len h]
section
variable {nf : Bool} {c : Cx} {A : Around} {H : AHeap} {W : WM} {s : Shared}
theorem cw_sorted_keyIt (t0 : Tag) (hh : A.handled = none) {it d : Addr} {t t' : Tag} {ob : Obj} {l : List (Int × AV)} {E' : AV → AHeap → Prop} (h1 : H it = some (t, keyIt d 0 l.length (epOf ob))) (h2 : H d = some (t', .pin ob (.dI l))) (hne : it ≠ d) (hz : l.length < 64) :
    CallW nf c A H (.builtin "sorted") [.ref it] (fun r H' => ∃ (a : Addr) (ns : List Int), H a = none ∧ r = .ref a ∧ ns.Perm (l.map (·.1)) ∧ ns.Pairwise (· ≤ ·) ∧ H' = upd (upd (Nx.drop H it) d (t', .dI l)) a (t0, .list (ns.map AV.int))) E' := fun W s vs outer ok hA hff hv => by
  cases hv with | cons r1 hv => cases hv with | nil =>
  obtain rfl : _ = Value.ref it := r1
  obtain ⟨kvs, D, kv⟩ := ok.pinned h2
  have hl := kv.length
  have hk := kv.keys
  have g1 := ok.lt h1
  have g2 := ok.lt h2
  refine wpN_of (sorted_of (wpAny_ge (collect_keyiter ((Walks.dictKeys (A := A.in1.in1) (knd := intKind c.prog c.w) hh it d (Ne.symm hne) kvs (epOf ob)).toS) (fun i s st => st.1.typeIs) ⟨hl ▸ ok.keyIt h1, D⟩ (fun b hb => ?_) (by simp) (fun s' acc hm hI ge => ?_) (by rw [sizeLine_eq]; omega))))
  · simp at hb
    rcases hb with rfl | rfl
    · exact g1
    · exact g2
  · have hints : IntsAre acc.toList (l.map (·.1)) := by
      refine ints_of (by rw [Array.length_toList, hI.1]; simp [hl]) fun j v hj => ?_
      obtain ⟨k, x, e1, e2⟩ := hI.2 j v (by simpa using hj)
      obtain ⟨tk, rfl⟩ := Value.isInt_shape e2
      refine ⟨k, tk, ?_, rfl⟩
      rw [← hk, List.getElem?_map, e1]; rfl
    refine ⟨_, hints, by rw [Array.length_toList, hI.1]; omega, fun h' a out ns' e k hsz ha hob hint hperm hsort => ?_⟩
    obtain ⟨hp1, gg1, dr1, tk1, os1⟩ := s'
    obtain rfl : gg1 = s.gens := hm.gens
    obtain rfl : dr1 = s.drawn := hm.drawn
    obtain rfl : os1 = s.os := hm.os
    have kk : ∀ b o, b ≠ it → s.heap.get? b = some o → hp1.get? b = some o := fun b o hb e => hm.heap b o (by simpa using hb) e
    have x : Heap.ExtBut it s.heap h' := fun b o hb e => k _ _ (kk b o hb e)
    have hsz1 : s.heap.objs.size ≤ hp1.objs.size := ge.1
    have ha' : hp1.objs.size = a := ha
    have hsa : s.heap.objs.size ≤ a := by omega
    have hHa : H a = none := by
      cases q : H a with
      | none => rfl
      | some y => exact absurd (ok.lt q) (Nat.not_lt.mpr hsa)
    have hWa : W a = none := by
      cases q : W a with
      | none => rfl
      | some y => obtain ⟨_, _, o, g, _⟩ := ok.frz _ _ q; exact absurd (Heap.lt_size g) (Nat.not_lt.mpr hsa)
    have p := ok.lose tk1 h1 x (Nat.le_trans hsz1 hsz)
    have pp := p.trans (p.ok.unpin ((drop_ne (Ne.symm hne)).trans h2) rfl)
    have hda : d ≠ a := fun e => by rw [e, hHa] at h2; cases h2
    have hH2 : upd (Nx.drop H it) d (t', .dI l) a = none := by rw [upd_ne (Ne.symm hda)]; exact drop_none hHa
    have hlen := ints_len hint
    have hpl := hperm.length_eq
    rw [List.length_map] at hpl
    refine ⟨W, upd (upd (Nx.drop H it) d (t', .dI l)) a (t0, .list (ns'.map AV.int)), .ref a, ⟨pp.ok.take hH2 hWa (Nat.le_trans ok.low hsa) hob (OR.list' (vs := out.toList) rfl rfl (ints_vr hint) (by rw [List.length_map]; omega)) rfl, pp.ext, pp.keep, pp.size, fun b hb => ?_, pp.wdom⟩, VR.ref', a, ns', hHa, rfl, hperm, hsort, rfl⟩
    by_cases e : b = a
    · exact .inr (e ▸ hsa)
    · rw [upd_ne e] at hb; exact pp.dom b hb
end
end Nx
end
section
set_option autoImplicit false
namespace Nx
section
variable {nf : Bool} {c : Cx} {A : Around} {H : AHeap} {W : WM} {s : Shared}
theorem entry_iter : entryFor table "iter" = some Builtin.«iter» := entryFor_of_fast (by kernel_rfl)
theorem args_iter (a : Value) : argsOk "iter" ⟨[a], []⟩ := by unfold argsOk; kernel_rfl
theorem cw_iter {v : AV} {P : Addr → AHeap → Prop} {E' : AV → AHeap → Prop} (h : IterOk false c A.in1 H v P) : CallW nf c A H (.builtin "iter") [v] (fun r H' => ∃ it, r = .ref it ∧ P it H') E' := fun W s vs outer ok hA hff hv => by
  cases hv with | cons r1 hv => cases hv with | nil =>
  rename_i u
  refine wpN_of (call_function_entry (by decide +kernel) (by decide +kernel) entry_iter (args_iter _) ?_)
  unfold Builtin.«iter»
  refine wpAny_bind (m := someArgs "iter" 1 2 _) (wpAny_of_eq (a := [u]) (by first | rfl | kernel_rfl!) ?_)
  show wpAny _ _ (pyIter u >>= _) _ _ _
  refine wpAny_bind (wpAny_mono (wpN_any (h W s u ok r1)) (fun o s' ⟨W', H', it, ho, p, q⟩ => ?_) fun _ _ z => z.elim)
  subst ho
  exact wpAny_pure ⟨_, rfl, W', H', .ref it, p, VR.ref', it, rfl, q⟩
end
end Nx
end
section
set_option autoImplicit false
namespace Nx
/-- a cached property of a class of the text -/
structure CacheIs (c : Cx) (C : Addr) (name : Str) (p fG : Addr) : Prop where
  cls : ClsOk c C
  find : findIn c.K (.ref C) name = some (some (.ref p))
  get : specialIn c.K (.ref p) "__get__" = some (some (.ref fG))
  takes : takesIn c.K (.ref p) = some false
  name : copiedNames.contains name = false
theorem CacheIs.obj {c : Cx} {C : Addr} {name : Str} {p fG : Addr} (h : CacheIs c C name p fG) {od : Obj} (hl : lookIn name od = some none) : findObj c.K C (some od) name = some (.bind (.ref fG) (.ref p)) := by
  have hd := h.cls.dict
  unfold hasDictIn at hd
  obtain ⟨cd, hc, hcd⟩ := any_some hd
  have ho : PySem.W.ownOf cd (some od) name = some none := by
    unfold PySem.W.ownOf
    simp [hcd, hl]
  unfold findObj
  rw [hc, Option.bind_some, h.find, Option.bind_some]
  dsimp only
  rw [h.get, Option.bind_some]
  dsimp only
  rw [h.takes, Option.bind_some, ho, Option.bind_some, h.name]
  rfl
section
variable {nf : Bool} {c : Cx} {A : Around} {env : Env} {m : LM} {H : AHeap} {E : AV → LM → AHeap → Prop} {W : WM} {s : Shared}
theorem ae_cached {o : Expr} {name : Str} {pos : Pos} {x C d p fG : Addr} {t t' : Tag} {mm : List (Str × AV)} {Q : AV → LM → AHeap → Prop} (hC : CacheIs c C name p fG) (ho : PE c A env m H o (.ref x)) (h1 : H x = some (t, .inst C d)) (h2 : H d = some (t', .nS mm)) (hl : look mm name = none)
    (hcall : CallOk nf c A.in1 H (.ref fG) [.ref p, .ref x, .ref C] [] (fun v H' => v.plain = true ∧ Q v m H') (fun _ _ => False))
    (he : eval (.Attribute o name pos) env = (do let ov ← eval o env; standAt pos.atName; let r ← holding [ov] (getAttr ov name true); letTemporaryGo o ov r; pure r) := by rfl) : AE nf c A env m H (.Attribute o name pos) Q E := .mk fun W s ok fo => by
  show wpN _ _ _ (eval _ env) _ _ _
  rw [he]
  refine wpN_then (ho.run ok fo fun W1 s1 u p1 f1 r1 => ?_)
  obtain rfl : u = .ref x := r1
  refine wpN_bind (wpN_standAt (wpN_bind (wpN_holding ?_)))
  obtain ⟨od, I, g, L⟩ := p1.ok.inst h1 h2
  obtain ⟨r, hr, hor⟩ := L name
  rw [hl] at hor
  obtain rfl := hor.none
  have p2 := Post.toks p1.ok (s1.toks + 1)
  obtain ⟨outer, hA, hff⟩ := f1.ff
  refine get_bindN p1.ok.kin I hC.cls.ga (hC.obj hr) hC.cls.gk (wpN_call (codeN_mono (hcall W1 _ [.ref p, .ref x, .ref C] [] _ p2.ok hA (hff.keep p2) (.cons VR.ref' (.cons VR.ref' (.cons VR.ref' .nil))) .nil) fun res s3 hr => ?_))
  rcases res with e | (_ | _ | _ | v)
  · obtain ⟨_, _, _, _, _, z⟩ := hr; exact z.elim
  · exact hr
  · exact hr
  · exact hr
  · obtain ⟨W3, H3, a, p3, r3, hp, q⟩ := hr
    have pp := (p1.trans p2).trans p3
    exact ⟨r3.handed hp, wpN_of (wpAny_bind (wpAny_letTemporaryGo (wpAny_pure ⟨W3, H3, m, a, pp.x _, fo.keep pp, r3, q⟩)))⟩
end
end Nx
end
section
set_option autoImplicit false
namespace Nx
section
variable {gid : Nat} {dir : Bool} {C CN : Addr} {loc : Loc} {mm mm' : List (Str × AV)} {g : GC} {H : AHeap}
theorem want_mm (t : Tag) (o : AObj) (h : wantG gid dir C loc mm' g t = some o) : wset (wantG gid dir C loc mm g) (tD gid) (.nS mm') t = some o := by
  obtain ⟨own, role, key⟩ := t
  unfold wantG at h
  dsimp only at h
  by_cases e : own = gid
  · subst e
    rw [if_pos rfl] at h
    split at h
    all_goals first
      | (simpa [wset, wantG] using h; done)
      | cases h
  · rw [if_neg e] at h; cases h
theorem Attrs.adj (h : Attrs gid dir loc mm) (hj : look mm "adj" = none) : Attrs gid dir loc (put mm "adj" (.ref (loc (tA gid)))) := by
  refine ⟨?_, ?_, ?_, fun hd => ?_, fun hd => ?_, .inr (look_put_same _ _ _), fun name hn => ?_, ?_⟩
  · rw [look_put_ne _ _ (by decide)]; exact h.g
  · rw [look_put_ne _ _ (by decide)]; exact h.n
  · rw [look_put_ne _ _ (by decide)]; exact h.a
  · rw [look_put_ne _ _ (by decide)]; exact h.s hd
  · rw [look_put_ne _ _ (by decide)]; exact h.p hd
  · rw [look_put_ne _ _ (fun e => hn (by rw [e]; decide))]; exact h.other name hn
  · have l1 := put_length mm ("adj" : Str) (AV.ref (loc (tA gid)))
    have l2 := h.len
    rw [hj] at l2
    rw [look_put_same, look_put_ne _ _ (by decide)]
    simp only [Option.isSome_some, Option.isSome_none, if_true, Bool.false_eq_true, if_false] at l2 ⊢
    omega
theorem Attrs.nodes (h : Attrs gid dir loc mm) (hj : look mm "nodes" = none) (v : AV) : Attrs gid dir loc (put mm "nodes" v) := by
  refine ⟨?_, ?_, ?_, fun hd => ?_, fun hd => ?_, ?_, fun name hn => ?_, ?_⟩
  · rw [look_put_ne _ _ (by decide)]; exact h.g
  · rw [look_put_ne _ _ (by decide)]; exact h.n
  · rw [look_put_ne _ _ (by decide)]; exact h.a
  · rw [look_put_ne _ _ (by decide)]; exact h.s hd
  · rw [look_put_ne _ _ (by decide)]; exact h.p hd
  · rw [look_put_ne _ _ (by decide)]; exact h.j
  · rw [look_put_ne _ _ (fun e => hn (by rw [e]; decide))]; exact h.other name hn
  · have l1 := put_length mm ("nodes" : Str) v
    have l2 := h.len
    rw [hj] at l2
    rw [look_put_same, look_put_ne _ _ (by decide)]
    simp only [Option.isSome_some, Option.isSome_none, if_true, Bool.false_eq_true, if_false] at l2 ⊢
    omega
theorem GAt.cacheAdj (h : GAt gid dir C CN loc mm g H) (hj : look mm "adj" = none) : GAt gid dir C CN loc (put mm "adj" (.ref (loc (tA gid)))) g (upd H (loc (tD gid)) (tD gid, .nS (put mm "adj" (.ref (loc (tA gid)))))) ∧ Frame gid H (upd H (loc (tD gid)) (tD gid, .nS (put mm "adj" (.ref (loc (tA gid)))))) := by
  have f : Frame gid H (upd H (loc (tD gid)) (tD gid, .nS (put mm "adj" (.ref (loc (tA gid)))))) := Frame.at h.at_ (by simp [wantG]) rfl
  refine ⟨⟨(h.at_.upd (t := tD gid) _ (by simp [wantG])).weak want_mm, h.att.adj hj, h.wf, ?_⟩, f⟩
  have := h.nv_keep f (Same.refl _ _)
  rw [look_put_ne _ _ (by decide)]
  exact this
theorem GAt.cacheNodes (h : GAt gid dir C CN loc mm g H) (hj : look mm "nodes" = none) {a d : Addr} (ha : H a = some (tV gid, .slot1 CN d (.ref (loc (tN gid))))) (hd : H d = some (tW gid, .nS [])) :
    GAt gid dir C CN loc (put mm "nodes" (.ref a)) g (upd H (loc (tD gid)) (tD gid, .nS (put mm "nodes" (.ref a)))) ∧ Frame gid H (upd H (loc (tD gid)) (tD gid, .nS (put mm "nodes" (.ref a)))) := by
  have f : Frame gid H (upd H (loc (tD gid)) (tD gid, .nS (put mm "nodes" (.ref a)))) := Frame.at h.at_ (by simp [wantG]) rfl
  refine ⟨⟨(h.at_.upd (t := tD gid) _ (by simp [wantG])).weak want_mm, h.att.nodes hj _, h.wf, .inr ⟨a, d, look_put_same _ _ _, ?_, ?_⟩⟩, f⟩
  · exact upd_tag h.d ha (by simp [vid])
  · exact upd_tag h.d hd (by simp [vid])
end
end Nx
end
section
set_option autoImplicit false
namespace Nx
section
variable {nf : Bool} {c : Cx} {A : Around} {env : Env} {m : LM} {H : AHeap} {E : AV → LM → AHeap → Prop} {W : WM} {s : Shared}
theorem tail_dI {value slice : Expr} {d : Addr} {t : Tag} {l : List (Int × AV)} {k : Int} {v : AV} {Q : AV → LM → AHeap → Prop} {u x : Value} (ok : Ok c W s H) (fo : Fo c W s H env A m) (hd : H d = some (t, .dI l)) (hl : look l k = some v) (r1 : VR W u (.ref d)) (r2 : VR W x (.int k)) (q : Q v m H) (hp : plainIdx slice = true := by rfl) :
    G nf c A env VR Q E W s H (subscriptTail value slice u x) := by
  obtain rfl : u = .ref d := r1
  obtain ⟨tk, rfl⟩ := r2
  obtain ⟨kvs, D, kv, _⟩ := ok.dI hd
  have z := kv.look k
  rw [hl] at z
  obtain ⟨y, hy, r⟩ := z.some
  exact wpN_of (tail_type D.mapOf.typeIs slot_dict_getitem (wpAny_getItem_of (intKind_is _ _ _ _) D.mapOf hy (stay ok fo r q)) (subscripted_plain hp _ _))
/-- e[i], e with effect, a dict by ints -/
theorem ae_sub_dI {value slice : Expr} {pos : Pos} {Q : AV → LM → AHeap → Prop} (hv : AE nf c A env m H value (fun a m' H' => ∃ d t l k v, a = .ref d ∧ PE c A env m' H' slice (.int k) ∧ H' d = some (t, .dI l) ∧ look l k = some v ∧ Q v m' H') E) (hp : plainIdx slice = true := by rfl) : AE nf c A env m H (.Subscript value slice pos) Q E :=
  ae_sub (AE.mono hv (fun a m' H' ⟨d, t, l, k, v, e, h1, h2, h3, h4⟩ => by
    subst e
    exact ⟨.int k, h1, fun W s u x ok fo r1 r2 => tail_dI ok fo h2 h3 r1 r2 h4 hp⟩) fun _ _ _ z => z)
end
end Nx
end
section
set_option autoImplicit false
namespace Nx
theorem ints_from {W : WM} : ∀ {ns : List Int} {vs : List Value}, All2 (VR W) vs (ns.map AV.int) → IntsAre vs ns
  | [], _, h => by cases h; exact .nil
  | n :: ns, _, h => by
    cases h with | cons r h =>
    obtain ⟨t, rfl⟩ := r
    exact .cons n t (ints_from h)
section
variable {nf : Bool} {c : Cx} {A : Around} {env : Env} {m : LM} {H : AHeap} {E : AV → LM → AHeap → Prop} {W : WM} {s : Shared}
theorem ae_slice (t : Tag) {value ub : Expr} {p pos : Pos} {l : Addr} {t' : Tag} {ns : List Int} {y : Int} {Q : AV → LM → AHeap → Prop} (hv : PE c A env m H value (.ref l)) (hu : PE c A env m H ub (.int y)) (hl : H l = some (t', .list (ns.map AV.int))) (h0 : 0 ≤ y)
    (q : ∀ d, H d = none → Q (.ref d) m (upd H d (t, .list ((ns.take y.toNat).map AV.int)))) (ht : ∀ o r, letTemporaryGo value o r = pure () := by intro _ _; rfl) : AE nf c A env m H (.Subscript value (.Slice none (some ub) none p) pos) Q E := .mk fun W s ok fo => by
  refine wpN_of (wpAny_Subscript_list_slice (hv.run ok fo fun W1 s1 u p1 f1 r1 => ?_) ht)
  obtain rfl : u = .ref l := r1
  rw [evalPart_none]
  refine wpAny_pure ?_
  refine (show wpAny c.M A (eval ub env) _ _ s1 from hu.run p1.ok f1 fun W2 s2 x p2 f2 r2 => ?_)
  obtain ⟨tk, rfl⟩ := r2
  obtain ⟨vs, D, r, z⟩ := p2.ok.isList hl
  have hlen := r.length
  have hI := ints_from r
  refine ⟨l, _, none, some y, rfl, D, by rw [sizeLine_eq]; simp; omega, .none, .int y tk, ?_⟩
  have p3 := p2.ok.grow (h' := s2.heap.push { cls := .type "slice", data := .fields #[.none, .int y tk, .none] }) s2.toks (fun _ _ e => Heap.get?_push_of_some _ e) (by rw [Heap.size_push]; exact Nat.le_succ _)
  have hu' := ints_vr (W := W2) (kmk_upto hI h0)
  have hl2 := (kmk_upto hI h0).length
  have p4 := p3.ok.alloc (t := t) (o := .list ((ns.take y.toNat).map AV.int)) (ob := { cls := .type "list", data := .seq (slicePick vs.toArray none (some y) none) }) s2.toks (OR.list' (vs := (slicePick vs.toArray none (some y) none).toList) rfl rfl hu' (by rw [List.length_map, List.length_take]; rw [List.length_map] at z; omega)) rfl rfl
  have hsz : ({ s2 with heap := s2.heap.push { cls := .type "slice", data := .fields #[.none, .int y tk, .none] }, toks := s2.toks } : Shared).heap.objs.size = s2.heap.objs.size + 1 := Heap.size_push _ _
  have hnew := p3.ok.fresh
  rw [hsz] at p4 hnew
  have pp := ((p1.trans p2).trans p3).trans p4
  exact ⟨W2, _, m, .ref _, pp.x _, fo.keep pp, VR.ref', q _ hnew⟩
end
end Nx
end
section
set_option autoImplicit false
namespace Nx
abbrev tK (gid : Nat) : Tag := ⟨gid + 1000, 0, []⟩
def Kw1 (kw : List (Str × Int)) : Prop := kw = [] ∨ ∃ n i, kw = [(n, i)] ∧ (n = ("w" : Str) ∨ n = ("x" : Str) ∨ n = ("y" : Str))
theorem Kw1.sm {kw : List (Str × Int)} (h : Kw1 kw) : SmK kw := by
  rcases h with rfl | ⟨n, i, rfl, h⟩
  · exact fun _ z => nomatch z
  · intro k hk; simp at hk; subst hk; exact h
theorem Kw1.length {kw : List (Str × Int)} (h : Kw1 kw) : kw.length ≤ 1 := by rcases h with rfl | ⟨n, i, rfl, h⟩ <;> simp
theorem Kw1.merge {kw : List (Str × Int)} (h : Kw1 kw) : mergeA [] (nums kw) = nums kw := by rcases h with rfl | ⟨n, i, rfl, h⟩ <;> rfl
section
variable {nf : Bool} {c : Cx} {A : Around} {H : AHeap} {gid : Nat} {dir : Bool} {C CN : Addr} {loc : Loc} {mm : List (Str × AV)} {g : GC}
abbrev sAE := gB 21
theorem bind_ae {kw : List (Str × Int)} (hkw : Kw1 kw) {cdv : Value} {x : AV} {u v : AV} : BindOk c A H "Graph.add_edge" (fpars sAE) (fbody sAE) (fscope sAE) .none .none cdv [x, u, v] (nums kw)
    (fun ab H' => ∃ d, H d = none ∧ H' = upd H d (tK gid, .dS (nums kw)) ∧ ab = ([("self", x), ("u_of_edge", u), ("v_of_edge", v), ("attr", .ref d)] : List (Str × AV))) := by
  intro name doc pm an ct W s vs kvs ok h1 h2
  cases h1 with | cons r1 h1 => cases h1 with | cons r2 h1 => cases h1 with | cons r3 h1 => cases h1 with | nil =>
  rename_i v1 v2 v3
  have hf : KV W [(("self" : Str), v1), ("u_of_edge", v2), ("v_of_edge", v3)] [("self", x), ("u_of_edge", u), ("v_of_edge", v)] := .cons ⟨rfl, r1⟩ (.cons ⟨rfl, r2⟩ (.cons ⟨rfl, r3⟩ .nil))
  have fin : ∀ d bs s', H d = none → Post c W s H W s' (upd H d (tK gid, .dS (mergeA [] (nums kw)))) → KV W bs (([("self", x), ("u_of_edge", u), ("v_of_edge", v)] : List (Str × AV)) ++ ([("attr", .ref d)] : List (Str × AV))) →
      ∃ W' H' ab, Post c W s H W' s' H' ∧ KV W' bs ab ∧ ∃ d, H d = none ∧ H' = upd H d (tK gid, .dS (nums kw)) ∧ ab = ([("self", x), ("u_of_edge", u), ("v_of_edge", v), ("attr", .ref d)] : List (Str × AV)) := fun d bs s' hd p kb => by
    rw [hkw.merge] at p
    exact ⟨W, _, _, p, kb, d, hd, rfl, rfl⟩
  rcases hkw with rfl | ⟨n, i, rfl, hn⟩
  · cases h2
    exact kw_of_eq rfl (kw_bind (tK gid) (ex := []) (exA := []) ok .nil hf (by simp) fin)
  · cases h2 with | cons r4 h2 => cases h2 with | nil =>
    rename_i y
    obtain ⟨y1, y2⟩ := y
    obtain ⟨e1, r4⟩ := r4
    dsimp only at e1
    subst e1
    rcases hn with rfl | rfl | rfl
    all_goals exact kw_of_eq rfl (kw_bind (tK gid) (ex := [(_, y2)]) (exA := nums [(_, i)]) ok (.cons ⟨rfl, r4⟩ .nil) hf (by simp [nums]) fin)
theorem add_edge_u {f : Addr} {cdv : Value} (hf : FnIs c f "Graph.add_edge" (fpars sAE) (fbody sAE) (fscope sAE) .none .none cdv) (k : Kls c false C CN) (rm : Rm A 2) (hg : GAt gid false C CN loc mm g H) {u v : Int} (hu0 : 0 ≤ u) (hu5 : u < 5) (hv0 : 0 ≤ v) (hv5 : v < 5) {kw : List (Str × Int)} (hkw : Kw1 kw) :
    CallOk nf c A H (.ref f) [.ref (loc (tX gid)), .int u, .int v] (nums kw) (fun r H' => r = .none ∧ ∃ loc', GAt gid false C CN loc' mm (((g.node u).node v).edge false u v kw) H' ∧ Same gid loc loc' ∧ Frame gid H H') (fun _ _ => False) := by
  refine call_fn hf rfl rm.room (bind_ae (gid := gid) hkw) ?_ ?_
  · rintro ab H' ⟨d, hd, rfl, rfl⟩
    rfl
  · rintro L ab H1 ⟨da, hda, rfl, rfl⟩ hL
    have rm' := rm.deeper (envOf "Graph.add_edge" (fscope sAE) L f cdv)
    have fr1 : Frame gid H (upd H da (tK gid, .dS (nums kw))) := Frame.new hda
    have hg1 : GAt gid false C CN loc mm g (upd H da (tK gid, .dS (nums kw))) := ⟨fun t o ht => upd_new hda (hg.at_ t o ht), hg.att, hg.wf, hg.nv_keep fr1 (Same.refl _ _)⟩
    have hat : upd H da (tK gid, .dS (nums kw)) da = some (tK gid, .dS (nums kw)) := upd_same
    refine as_cons (a1_assign_swap (names := ["u", "v"]) (by intro y hy; rcases List.mem_cons.mp hy with rfl | hy; rfl; rcases List.mem_cons.mp hy with rfl | hy; rfl; cases hy) (ae_pe (v := .tup [.int u, .int v]) (pe_tuple (pl_cons (pe_name rfl) (pl_cons (pe_name rfl) pl_nil)) (by simp)) ⟨[.int u, .int v], unp_tup (.inl rm'.h), rfl, ?_⟩))
    refine as_cons (a1_ensure_u (x := "u") (n := u) k rm' hg1 ⟨rfl, rfl, rfl, rfl⟩ ⟨rfl, rfl, rfl, rfl⟩ hu0 hu5 fun loc2 H2 hg2 s2 f2 => ?_)
    have hs2 : loc2 (tX gid) = loc (tX gid) := s2 (tX gid) rfl (by simp)
    refine as_cons (a1_ensure_u (x := "v") (n := v) k rm' hg2 ⟨by rw [hs2]; rfl, rfl, rfl, rfl⟩ ⟨rfl, rfl, rfl, rfl⟩ hv0 hv5 fun loc3 H3 hg3 s3 f3 => ?_)
    have hs3 : loc3 (tX gid) = loc (tX gid) := (s3 (tX gid) rfl (by simp)).trans hs2
    have hat3 : H3 da = some (tK gid, .dS (nums kw)) := f3 _ _ _ (f2 _ _ _ hat (by simp) (by simp)) (by simp) (by simp)
    refine as_edge_u (x := "u") (y := "v") (dd := "datadict") (ups := [_]) k rm' hg3 ⟨by rw [hs3]; rfl, rfl, rfl, rfl⟩ ⟨rfl, rfl, rfl, rfl⟩ ⟨rfl, rfl, rfl, rfl⟩ (by decide) (by decide) (by decide) rfl rfl (GC.keys_node GC.mem_node) GC.mem_node hkw.sm ?_ ?_
    · intro H4 d l rest Q' f4 hd4 hl hrest
      refine as_cons (a1_update (x := "datadict") (y := "attr") ⟨rfl, rfl, rfl, rfl⟩ ⟨rfl, rfl, rfl, rfl⟩ hd4 (f4 _ _ _ hat3 (by simp) (by simp)) (by simp) (by have := hkw.length; omega) hrest)
    · intro loc4 H4 d hg4 s4 f4
      exact ⟨rfl, loc4, hg4, (s2.trans s3).trans s4, ((fr1.trans f2).trans f3).trans f4⟩
end
end Nx
end
section
set_option autoImplicit false
namespace Nx
section
variable {nf : Bool} {c : Cx} {A : Around} {H : AHeap} {gid : Nat} {dir : Bool} {C CN : Addr} {loc : Loc} {mm : List (Str × AV)} {g : GC}
abbrev sAEd := dB 9
theorem bind_aed {kw : List (Str × Int)} (hkw : Kw1 kw) {cdv : Value} {x : AV} {u v : AV} : BindOk c A H "DiGraph.add_edge" (fpars sAEd) (fbody sAEd) (fscope sAEd) .none .none cdv [x, u, v] (nums kw)
    (fun ab H' => ∃ d, H d = none ∧ H' = upd H d (tK gid, .dS (nums kw)) ∧ ab = ([("self", x), ("u_of_edge", u), ("v_of_edge", v), ("attr", .ref d)] : List (Str × AV))) := by
  intro name doc pm an ct W s vs kvs ok h1 h2
  cases h1 with | cons r1 h1 => cases h1 with | cons r2 h1 => cases h1 with | cons r3 h1 => cases h1 with | nil =>
  rename_i v1 v2 v3
  have hf : KV W [(("self" : Str), v1), ("u_of_edge", v2), ("v_of_edge", v3)] [("self", x), ("u_of_edge", u), ("v_of_edge", v)] := .cons ⟨rfl, r1⟩ (.cons ⟨rfl, r2⟩ (.cons ⟨rfl, r3⟩ .nil))
  have fin : ∀ d bs s', H d = none → Post c W s H W s' (upd H d (tK gid, .dS (mergeA [] (nums kw)))) → KV W bs (([("self", x), ("u_of_edge", u), ("v_of_edge", v)] : List (Str × AV)) ++ ([("attr", .ref d)] : List (Str × AV))) →
      ∃ W' H' ab, Post c W s H W' s' H' ∧ KV W' bs ab ∧ ∃ d, H d = none ∧ H' = upd H d (tK gid, .dS (nums kw)) ∧ ab = ([("self", x), ("u_of_edge", u), ("v_of_edge", v), ("attr", .ref d)] : List (Str × AV)) := fun d bs s' hd p kb => by
    rw [hkw.merge] at p
    exact ⟨W, _, _, p, kb, d, hd, rfl, rfl⟩
  rcases hkw with rfl | ⟨n, i, rfl, hn⟩
  · cases h2
    exact kw_of_eq rfl (kw_bind (tK gid) (ex := []) (exA := []) ok .nil hf (by simp) fin)
  · cases h2 with | cons r4 h2 => cases h2 with | nil =>
    rename_i y
    obtain ⟨y1, y2⟩ := y
    obtain ⟨e1, r4⟩ := r4
    dsimp only at e1
    subst e1
    rcases hn with rfl | rfl | rfl
    all_goals exact kw_of_eq rfl (kw_bind (tK gid) (ex := [(_, y2)]) (exA := nums [(_, i)]) ok (.cons ⟨rfl, r4⟩ .nil) hf (by simp [nums]) fin)
theorem add_edge_d {f : Addr} {cdv : Value} (hf : FnIs c f "DiGraph.add_edge" (fpars sAEd) (fbody sAEd) (fscope sAEd) .none .none cdv) (k : Kls c true C CN) (rm : Rm A 2) (hg : GAt gid true C CN loc mm g H) {u v : Int} (hu0 : 0 ≤ u) (hu5 : u < 5) (hv0 : 0 ≤ v) (hv5 : v < 5) {kw : List (Str × Int)} (hkw : Kw1 kw) :
    CallOk nf c A H (.ref f) [.ref (loc (tX gid)), .int u, .int v] (nums kw) (fun r H' => r = .none ∧ ∃ loc', GAt gid true C CN loc' mm (((g.node u).node v).edge true u v kw) H' ∧ Same gid loc loc' ∧ Frame gid H H') (fun _ _ => False) := by
  refine call_fn hf rfl rm.room (bind_aed (gid := gid) hkw) ?_ ?_
  · rintro ab H' ⟨d, hd, rfl, rfl⟩
    rfl
  · rintro L ab H1 ⟨da, hda, rfl, rfl⟩ hL
    have rm' := rm.deeper (envOf "DiGraph.add_edge" (fscope sAEd) L f cdv)
    have fr1 : Frame gid H (upd H da (tK gid, .dS (nums kw))) := Frame.new hda
    have hg1 : GAt gid true C CN loc mm g (upd H da (tK gid, .dS (nums kw))) := ⟨fun t o ht => upd_new hda (hg.at_ t o ht), hg.att, hg.wf, hg.nv_keep fr1 (Same.refl _ _)⟩
    have hat : upd H da (tK gid, .dS (nums kw)) da = some (tK gid, .dS (nums kw)) := upd_same
    refine as_cons (a1_assign_swap (names := ["u", "v"]) (by intro y hy; rcases List.mem_cons.mp hy with rfl | hy; rfl; rcases List.mem_cons.mp hy with rfl | hy; rfl; cases hy) (ae_pe (v := .tup [.int u, .int v]) (pe_tuple (pl_cons (pe_name rfl) (pl_cons (pe_name rfl) pl_nil)) (by simp)) ⟨[.int u, .int v], unp_tup (.inl rm'.h), rfl, ?_⟩))
    refine as_cons (a1_ensure_d (x := "u") (n := u) k rm' hg1 ⟨rfl, rfl, rfl, rfl⟩ ⟨rfl, rfl, rfl, rfl⟩ hu0 hu5 fun loc2 H2 hg2 s2 f2 => ?_)
    have hs2 : loc2 (tX gid) = loc (tX gid) := s2 (tX gid) rfl (by simp)
    refine as_cons (a1_ensure_d (x := "v") (n := v) k rm' hg2 ⟨by rw [hs2]; rfl, rfl, rfl, rfl⟩ ⟨rfl, rfl, rfl, rfl⟩ hv0 hv5 fun loc3 H3 hg3 s3 f3 => ?_)
    have hs3 : loc3 (tX gid) = loc (tX gid) := (s3 (tX gid) rfl (by simp)).trans hs2
    have hat3 : H3 da = some (tK gid, .dS (nums kw)) := f3 _ _ _ (f2 _ _ _ hat (by simp) (by simp)) (by simp) (by simp)
    refine as_edge_d (x := "u") (y := "v") (dd := "datadict") (ups := [_]) k rm' hg3 ⟨by rw [hs3]; rfl, rfl, rfl, rfl⟩ ⟨rfl, rfl, rfl, rfl⟩ ⟨rfl, rfl, rfl, rfl⟩ (by decide) (by decide) (by decide) rfl rfl (GC.keys_node GC.mem_node) GC.mem_node hkw.sm ?_ ?_
    · intro H4 d l rest Q' f4 hd4 hl hrest
      refine as_cons (a1_update (x := "datadict") (y := "attr") ⟨rfl, rfl, rfl, rfl⟩ ⟨rfl, rfl, rfl, rfl⟩ hd4 (f4 _ _ _ hat3 (by simp) (by simp)) (by simp) (by have := hkw.length; omega) hrest)
    · intro loc4 H4 d hg4 s4 f4
      exact ⟨rfl, loc4, hg4, (s2.trans s3).trans s4, ((fr1.trans f2).trans f3).trans f4⟩
end
end Nx
end
section
set_option autoImplicit false
namespace Nx
def Frame2 (gid sid : Nat) (H H' : AHeap) : Prop := ∀ b t o, H b = some (t, o) → t.own ≠ gid → t.own ≠ sid → t.own ≠ xo → H' b = some (t, o)
theorem Frame.l {gid sid : Nat} {H H' : AHeap} (h : Frame gid H H') : Frame2 gid sid H H' := fun b t o hb n1 _ n3 => h b t o hb n1 n3
theorem Frame.r {gid sid : Nat} {H H' : AHeap} (h : Frame sid H H') : Frame2 gid sid H H' := fun b t o hb _ n2 n3 => h b t o hb n2 n3
theorem Frame2.trans {gid sid : Nat} {H H' H'' : AHeap} (x : Frame2 gid sid H H') (y : Frame2 gid sid H' H'') : Frame2 gid sid H H'' := fun b t o hb n1 n2 n3 => y b t o (x b t o hb n1 n2 n3) n1 n2 n3
abbrev ERow := Int × Int × List (Str × Int)
def eItem (es : List ERow) (gid : Nat) (i : Nat) (x : AV) (H : AHeap) : Prop := ∃ u v more dd t, es[i]? = some (u, v, more) ∧ x = .tup [.int u, .int v, .ref dd] ∧ H dd = some (t, .dS (nums more)) ∧ t.own ≠ gid ∧ t.own ≠ xo
def GC.edges (dir : Bool) (kw : List (Str × Int)) (g : GC) (es : List ERow) : GC := es.foldl (fun g e => ((g.node e.1).node e.2.1).edge dir e.1 e.2.1 (kw ++ e.2.2)) g
theorem GC.edges_take {dir : Bool} {kw : List (Str × Int)} {g : GC} {es : List ERow} {i : Nat} {e : ERow} (h : es[i]? = some e) : g.edges dir kw (es.take (i + 1)) = (((g.edges dir kw (es.take i)).node e.1).node e.2.1).edge dir e.1 e.2.1 (kw ++ e.2.2) := by
  unfold GC.edges
  rw [List.take_add_one, h, List.foldl_append]
  rfl
theorem SmK.append {a b : List (Str × Int)} (h : SmK a) (k : SmK b) : SmK (a ++ b) := fun x hx => by
  rw [List.map_append] at hx
  exact (List.mem_append.mp hx).elim (h x) (k x)
structure ERowOk (e : ERow) : Prop where
  u0 : 0 ≤ e.1
  u5 : e.1 < 5
  v0 : 0 ≤ e.2.1
  v5 : e.2.1 < 5
  sm : Small e.2.2
section
variable {nf : Bool} {c : Cx} {A : Around} {H : AHeap} {gid : Nat} {dir : Bool} {C CN : Addr} {loc : Loc} {mm : List (Str × AV)} {g : GC}
abbrev sAF := gB 22
theorem bind_af {kw : List (Str × Int)} (hkw : Kw1 kw) {cdv : Value} {x : AV} {u : AV} : BindOk c A H "Graph.add_edges_from" (fpars sAF) (fbody sAF) (fscope sAF) .none .none cdv [x, u] (nums kw)
    (fun ab H' => ∃ d, H d = none ∧ H' = upd H d (tK gid, .dS (nums kw)) ∧ ab = ([("self", x), ("ebunch_to_add", u), ("attr", .ref d)] : List (Str × AV))) := by
  intro name doc pm an ct W s vs kvs ok h1 h2
  cases h1 with | cons r1 h1 => cases h1 with | cons r2 h1 => cases h1 with | nil =>
  rename_i v1 v2
  have hf : KV W [(("self" : Str), v1), ("ebunch_to_add", v2)] [("self", x), ("ebunch_to_add", u)] := .cons ⟨rfl, r1⟩ (.cons ⟨rfl, r2⟩ .nil)
  have fin : ∀ d bs s', H d = none → Post c W s H W s' (upd H d (tK gid, .dS (mergeA [] (nums kw)))) → KV W bs (([("self", x), ("ebunch_to_add", u)] : List (Str × AV)) ++ ([("attr", .ref d)] : List (Str × AV))) →
      ∃ W' H' ab, Post c W s H W' s' H' ∧ KV W' bs ab ∧ ∃ d, H d = none ∧ H' = upd H d (tK gid, .dS (nums kw)) ∧ ab = ([("self", x), ("ebunch_to_add", u), ("attr", .ref d)] : List (Str × AV)) := fun d bs s' hd p kb => by
    rw [hkw.merge] at p
    exact ⟨W, _, _, p, kb, d, hd, rfl, rfl⟩
  rcases hkw with rfl | ⟨n, i, rfl, hn⟩
  · cases h2
    exact kw_of_eq rfl (kw_bind (tK gid) (ex := []) (exA := []) ok .nil hf (by simp) fin)
  · cases h2 with | cons r4 h2 => cases h2 with | nil =>
    rename_i y
    obtain ⟨y1, y2⟩ := y
    obtain ⟨e1, r4⟩ := r4
    dsimp only at e1
    subst e1
    rcases hn with rfl | rfl | rfl
    all_goals exact kw_of_eq rfl (kw_bind (tK gid) (ex := [(_, y2)]) (exA := nums [(_, i)]) ok (.cons ⟨rfl, r4⟩ .nil) hf (by simp [nums]) fin)
theorem add_edges_u {f : Addr} {cdv : Value} (hf : FnIs c f "Graph.add_edges_from" (fpars sAF) (fbody sAF) (fscope sAF) .none .none cdv) (gL : c.mg "len" = none) (bL : c.mb "len" = some (.builtin "len")) (k : Kls c false C CN) {j sid : Nat} (rm : Rm A (j + 2)) (hg : GAt gid false C CN loc mm g H)
    {kw : List (Str × Int)} (hkw : Kw1 kw) {es : List ERow} (hes : ∀ e ∈ es, ERowOk e) {src : AV} (hsg : sid ≠ gid) (hsv : vid gid ≠ sid) (hsk : gid + 1000 ≠ sid) (hg0 : gid ≠ xo)
    (hsrc : ∀ A' H', Rm A' (j + 1) → Frame gid H H' → IterOk nf c A' H' src (fun it H'' => ∃ Inv, Src c (j + 1) gid sid it es.length (eItem es gid) Inv ∧ Inv 0 H'' ∧ Frame sid H' H'')) :
    CallOk nf c A H (.ref f) [.ref (loc (tX gid)), src] (nums kw) (fun r H' => r = .none ∧ ∃ loc', GAt gid false C CN loc' mm (g.edges false kw es) H' ∧ Same gid loc loc' ∧ Frame2 gid sid H H') (fun _ _ => False) := by
  refine call_fn hf rfl rm.room (bind_af (gid := gid) hkw) ?_ ?_
  · rintro ab H' ⟨d, hd, rfl, rfl⟩
    rfl
  · rintro L ab H1 ⟨da, hda, rfl, rfl⟩ hL
    have rm' := rm.deeper (envOf "Graph.add_edges_from" (fscope sAF) L f cdv)
    have rm1 := rm'.less (j := 1) (by omega)
    have fr1 : Frame gid H (upd H da (tK gid, .dS (nums kw))) := Frame.new hda
    have hg1 : GAt gid false C CN loc mm g (upd H da (tK gid, .dS (nums kw))) := ⟨fun t o ht => upd_new hda (hg.at_ t o ht), hg.att, hg.wf, hg.nv_keep fr1 (Same.refl _ _)⟩
    have hat : upd H da (tK gid, .dS (nums kw)) da = some (tK gid, .dS (nums kw)) := upd_same
    refine as_cons (a1_forK (ae_pe (v := src) (pe_name rfl) ?_))
    intro W s u ok r
    refine wpN_mono (hsrc _ _ rm' fr1 W s u ok r) ?_ fun _ _ z => z.elim
    rintro o s' ⟨W', H2, it, rfl, p, Inv, hS, hI, f2⟩
    refine ⟨W', H2, it, rfl, p, fun n m' H' => ∃ i loc', n + i = es.length ∧ Inv i H' ∧ GAt gid false C CN loc' mm (g.edges false kw (es.take i)) H' ∧ Same gid loc loc' ∧ Frame2 gid sid H H' ∧ H' da = some (tK gid, .dS (nums kw)) ∧ m' "self" = some (.ref (loc (tX gid))) ∧ m' "attr" = some (.ref da), ?_, ?_⟩
    · exact ⟨es.length, 0, loc, by omega, hI, by rw [List.take_zero]; exact hg1.frame f2 (Ne.symm hsg) hsv hg0, Same.refl _ _, fr1.l.trans f2.r, f2 _ _ _ hat hsk (by simp), rfl, rfl⟩
    · rintro n m1 H3 ⟨i, loc3, hn, hI3, hg3, s3, f3, ha3, hm1, hm2⟩
      rcases Nat.lt_or_ge i es.length with hi | hi
      · refine (hS.step _ i H3 rm' hi hI3).mono ?_
        rintro r H4 ⟨x, rfl, ⟨ue, ve, more, dd, t, he, rfl, hdd, ht, ht0⟩, hI4, f4⟩
        have hro := hes _ (List.mem_of_getElem? he)
        have hg4 := hg3.frame f4 (Ne.symm hsg) hsv hg0
        have ha4 := f4 _ _ _ ha3 hsk (by simp)
        have hs3 : loc3 (tX gid) = loc (tX gid) := s3 (tX gid) rfl (by simp)
        refine asg_name ?_
        refine as_cons (a1_assign (v := .int 3) (pe_call (pe_blt gL bL) con_is keep_builtin (pl_cons (pe_name rfl) pl_nil) (cp_len_tup (by simp))) ?_)
        refine as_cons (a1_if (b := true) (pb_cmp (pe_name rfl) pe_int cmp_eq_int) ?_)
        refine as_cons (a1_assign_tuple (names := ["u", "v", "dd"]) (.cons (.cons (.cons .nil))) (by intro y hy; rcases List.mem_cons.mp hy with rfl | hy; rfl; rcases List.mem_cons.mp hy with rfl | hy; rfl; rcases List.mem_cons.mp hy with rfl | hy; rfl; cases hy) (ae_pe (pe_name rfl) ⟨_, unp_tup (.inl rm'.h), rfl, as_nil ?_⟩))
        refine as_cons (a1_ensure_u (x := "u") (n := ue) k rm1 hg4 ⟨by rw [hs3]; exact hm1, rfl, rfl, rfl⟩ ⟨rfl, rfl, rfl, rfl⟩ hro.u0 hro.u5 fun loc5 H5 hg5 s5 f5 => ?_)
        have hs5 : loc5 (tX gid) = loc (tX gid) := (s5 (tX gid) rfl (by simp)).trans hs3
        refine as_cons (a1_ensure_u (x := "v") (n := ve) k rm1 hg5 ⟨by rw [hs5]; exact hm1, rfl, rfl, rfl⟩ ⟨rfl, rfl, rfl, rfl⟩ hro.v0 hro.v5 fun loc6 H6 hg6 s6 f6 => ?_)
        have hs6 : loc6 (tX gid) = loc (tX gid) := (s6 (tX gid) rfl (by simp)).trans hs5
        have ha6 : H6 da = some (tK gid, .dS (nums kw)) := f6 _ _ _ (f5 _ _ _ ha4 (by simp) (by simp)) (by simp) (by simp)
        have hd6 : H6 dd = some (t, .dS (nums more)) := f6 _ _ _ (f5 _ _ _ hdd ht ht0) ht ht0
        refine as_edge_u (x := "u") (y := "v") (dd := "datadict") (ups := [_, _]) k rm1 hg6 ⟨by rw [hs6]; exact hm1, rfl, rfl, rfl⟩ ⟨rfl, rfl, rfl, rfl⟩ ⟨rfl, rfl, rfl, rfl⟩ (by decide) (by decide) (by decide) rfl rfl (GC.keys_node GC.mem_node) GC.mem_node (more := kw ++ more) (hkw.sm.append hro.sm.2) ?_ ?_
        · intro H7 d l rest Q' f7 hd7 hl hrest
          have hkl := hkw.length
          refine as_cons (a1_update (x := "datadict") (y := "attr") ⟨rfl, rfl, rfl, rfl⟩ ⟨hm2, rfl, rfl, rfl⟩ hd7 (f7 _ _ _ ha6 (by simp) (by simp)) (by simp) (by omega) ?_)
          have hml := hro.sm.length
          have hmk := mergeA_length kw l
          refine as_cons (a1_update (x := "datadict") (y := "dd") ⟨rfl, rfl, rfl, rfl⟩ ⟨rfl, rfl, rfl, rfl⟩ upd_same (upd_tag hd7 (f7 _ _ _ hd6 ht ht0) (fun e => ht (by rw [e]))) (fun e => ht (by rw [← e])) (by dsimp only at hml; omega) ?_)
          rw [upd_upd, ← mergeA_append]
          exact hrest
        · intro loc8 H8 d hg8 s8 f8
          refine ⟨n - 1, by omega, i + 1, loc8, by omega, hS.stab _ _ _ (hS.stab _ _ _ (hS.stab _ _ _ hI4 f5) f6) f8, by rw [GC.edges_take he]; exact hg8, ((s3.trans s5).trans s6).trans s8, (((f3.trans f4.r).trans f5.l).trans f6.l).trans f8.l, f8 _ _ _ ha6 (by simp) (by simp), hm1, hm2⟩
      · obtain rfl : i = es.length := by omega
        refine (hS.fin _ H3 rm' hI3).mono ?_
        rintro r H4 ⟨rfl, f4⟩
        refine as_nil ⟨rfl, loc3, ?_, s3, f3.trans f4.r⟩
        rw [List.take_length] at hg3
        exact hg3.frame f4 (Ne.symm hsg) hsv hg0
end
end Nx
end
section
set_option autoImplicit false
namespace Nx
section
variable {nf : Bool} {c : Cx} {A : Around} {H : AHeap} {gid : Nat} {dir : Bool} {C CN : Addr} {loc : Loc} {mm : List (Str × AV)} {g : GC}
abbrev sAFd := dB 10
theorem bind_afd {kw : List (Str × Int)} (hkw : Kw1 kw) {cdv : Value} {x : AV} {u : AV} : BindOk c A H "DiGraph.add_edges_from" (fpars sAFd) (fbody sAFd) (fscope sAFd) .none .none cdv [x, u] (nums kw)
    (fun ab H' => ∃ d, H d = none ∧ H' = upd H d (tK gid, .dS (nums kw)) ∧ ab = ([("self", x), ("ebunch_to_add", u), ("attr", .ref d)] : List (Str × AV))) := by
  intro name doc pm an ct W s vs kvs ok h1 h2
  cases h1 with | cons r1 h1 => cases h1 with | cons r2 h1 => cases h1 with | nil =>
  rename_i v1 v2
  have hf : KV W [(("self" : Str), v1), ("ebunch_to_add", v2)] [("self", x), ("ebunch_to_add", u)] := .cons ⟨rfl, r1⟩ (.cons ⟨rfl, r2⟩ .nil)
  have fin : ∀ d bs s', H d = none → Post c W s H W s' (upd H d (tK gid, .dS (mergeA [] (nums kw)))) → KV W bs (([("self", x), ("ebunch_to_add", u)] : List (Str × AV)) ++ ([("attr", .ref d)] : List (Str × AV))) →
      ∃ W' H' ab, Post c W s H W' s' H' ∧ KV W' bs ab ∧ ∃ d, H d = none ∧ H' = upd H d (tK gid, .dS (nums kw)) ∧ ab = ([("self", x), ("ebunch_to_add", u), ("attr", .ref d)] : List (Str × AV)) := fun d bs s' hd p kb => by
    rw [hkw.merge] at p
    exact ⟨W, _, _, p, kb, d, hd, rfl, rfl⟩
  rcases hkw with rfl | ⟨n, i, rfl, hn⟩
  · cases h2
    exact kw_of_eq rfl (kw_bind (tK gid) (ex := []) (exA := []) ok .nil hf (by simp) fin)
  · cases h2 with | cons r4 h2 => cases h2 with | nil =>
    rename_i y
    obtain ⟨y1, y2⟩ := y
    obtain ⟨e1, r4⟩ := r4
    dsimp only at e1
    subst e1
    rcases hn with rfl | rfl | rfl
    all_goals exact kw_of_eq rfl (kw_bind (tK gid) (ex := [(_, y2)]) (exA := nums [(_, i)]) ok (.cons ⟨rfl, r4⟩ .nil) hf (by simp [nums]) fin)
theorem add_edges_d {f : Addr} {cdv : Value} (hf : FnIs c f "DiGraph.add_edges_from" (fpars sAFd) (fbody sAFd) (fscope sAFd) .none .none cdv) (gL : c.mg "len" = none) (bL : c.mb "len" = some (.builtin "len")) (k : Kls c true C CN) {j sid : Nat} (rm : Rm A (j + 2)) (hg : GAt gid true C CN loc mm g H)
    {kw : List (Str × Int)} (hkw : Kw1 kw) {es : List ERow} (hes : ∀ e ∈ es, ERowOk e) {src : AV} (hsg : sid ≠ gid) (hsv : vid gid ≠ sid) (hsk : gid + 1000 ≠ sid) (hg0 : gid ≠ xo)
    (hsrc : ∀ A' H', Rm A' (j + 1) → Frame gid H H' → IterOk nf c A' H' src (fun it H'' => ∃ Inv, Src c (j + 1) gid sid it es.length (eItem es gid) Inv ∧ Inv 0 H'' ∧ Frame sid H' H'')) :
    CallOk nf c A H (.ref f) [.ref (loc (tX gid)), src] (nums kw) (fun r H' => r = .none ∧ ∃ loc', GAt gid true C CN loc' mm (g.edges true kw es) H' ∧ Same gid loc loc' ∧ Frame2 gid sid H H') (fun _ _ => False) := by
  refine call_fn hf rfl rm.room (bind_afd (gid := gid) hkw) ?_ ?_
  · rintro ab H' ⟨d, hd, rfl, rfl⟩
    rfl
  · rintro L ab H1 ⟨da, hda, rfl, rfl⟩ hL
    have rm' := rm.deeper (envOf "DiGraph.add_edges_from" (fscope sAFd) L f cdv)
    have rm1 := rm'.less (j := 1) (by omega)
    have fr1 : Frame gid H (upd H da (tK gid, .dS (nums kw))) := Frame.new hda
    have hg1 : GAt gid true C CN loc mm g (upd H da (tK gid, .dS (nums kw))) := ⟨fun t o ht => upd_new hda (hg.at_ t o ht), hg.att, hg.wf, hg.nv_keep fr1 (Same.refl _ _)⟩
    have hat : upd H da (tK gid, .dS (nums kw)) da = some (tK gid, .dS (nums kw)) := upd_same
    refine as_cons (a1_forK (ae_pe (v := src) (pe_name rfl) ?_))
    intro W s u ok r
    refine wpN_mono (hsrc _ _ rm' fr1 W s u ok r) ?_ fun _ _ z => z.elim
    rintro o s' ⟨W', H2, it, rfl, p, Inv, hS, hI, f2⟩
    refine ⟨W', H2, it, rfl, p, fun n m' H' => ∃ i loc', n + i = es.length ∧ Inv i H' ∧ GAt gid true C CN loc' mm (g.edges true kw (es.take i)) H' ∧ Same gid loc loc' ∧ Frame2 gid sid H H' ∧ H' da = some (tK gid, .dS (nums kw)) ∧ m' "self" = some (.ref (loc (tX gid))) ∧ m' "attr" = some (.ref da), ?_, ?_⟩
    · exact ⟨es.length, 0, loc, by omega, hI, by rw [List.take_zero]; exact hg1.frame f2 (Ne.symm hsg) hsv hg0, Same.refl _ _, fr1.l.trans f2.r, f2 _ _ _ hat hsk (by simp), rfl, rfl⟩
    · rintro n m1 H3 ⟨i, loc3, hn, hI3, hg3, s3, f3, ha3, hm1, hm2⟩
      rcases Nat.lt_or_ge i es.length with hi | hi
      · refine (hS.step _ i H3 rm' hi hI3).mono ?_
        rintro r H4 ⟨x, rfl, ⟨ue, ve, more, dd, t, he, rfl, hdd, ht, ht0⟩, hI4, f4⟩
        have hro := hes _ (List.mem_of_getElem? he)
        have hg4 := hg3.frame f4 (Ne.symm hsg) hsv hg0
        have ha4 := f4 _ _ _ ha3 hsk (by simp)
        have hs3 : loc3 (tX gid) = loc (tX gid) := s3 (tX gid) rfl (by simp)
        refine asg_name ?_
        refine as_cons (a1_assign (v := .int 3) (pe_call (pe_blt gL bL) con_is keep_builtin (pl_cons (pe_name rfl) pl_nil) (cp_len_tup (by simp))) ?_)
        refine as_cons (a1_if (b := true) (pb_cmp (pe_name rfl) pe_int cmp_eq_int) ?_)
        refine as_cons (a1_assign_tuple (names := ["u", "v", "dd"]) (.cons (.cons (.cons .nil))) (by intro y hy; rcases List.mem_cons.mp hy with rfl | hy; rfl; rcases List.mem_cons.mp hy with rfl | hy; rfl; rcases List.mem_cons.mp hy with rfl | hy; rfl; cases hy) (ae_pe (pe_name rfl) ⟨_, unp_tup (.inl rm'.h), rfl, as_nil ?_⟩))
        refine as_cons (a1_ensure_d (x := "u") (n := ue) k rm1 hg4 ⟨by rw [hs3]; exact hm1, rfl, rfl, rfl⟩ ⟨rfl, rfl, rfl, rfl⟩ hro.u0 hro.u5 fun loc5 H5 hg5 s5 f5 => ?_)
        have hs5 : loc5 (tX gid) = loc (tX gid) := (s5 (tX gid) rfl (by simp)).trans hs3
        refine as_cons (a1_ensure_d (x := "v") (n := ve) k rm1 hg5 ⟨by rw [hs5]; exact hm1, rfl, rfl, rfl⟩ ⟨rfl, rfl, rfl, rfl⟩ hro.v0 hro.v5 fun loc6 H6 hg6 s6 f6 => ?_)
        have hs6 : loc6 (tX gid) = loc (tX gid) := (s6 (tX gid) rfl (by simp)).trans hs5
        have ha6 : H6 da = some (tK gid, .dS (nums kw)) := f6 _ _ _ (f5 _ _ _ ha4 (by simp) (by simp)) (by simp) (by simp)
        have hd6 : H6 dd = some (t, .dS (nums more)) := f6 _ _ _ (f5 _ _ _ hdd ht ht0) ht ht0
        refine as_edge_d (x := "u") (y := "v") (dd := "datadict") (ups := [_, _]) k rm1 hg6 ⟨by rw [hs6]; exact hm1, rfl, rfl, rfl⟩ ⟨rfl, rfl, rfl, rfl⟩ ⟨rfl, rfl, rfl, rfl⟩ (by decide) (by decide) (by decide) rfl rfl (GC.keys_node GC.mem_node) GC.mem_node (more := kw ++ more) (hkw.sm.append hro.sm.2) ?_ ?_
        · intro H7 d l rest Q' f7 hd7 hl hrest
          have hkl := hkw.length
          refine as_cons (a1_update (x := "datadict") (y := "attr") ⟨rfl, rfl, rfl, rfl⟩ ⟨hm2, rfl, rfl, rfl⟩ hd7 (f7 _ _ _ ha6 (by simp) (by simp)) (by simp) (by omega) ?_)
          have hml := hro.sm.length
          have hmk := mergeA_length kw l
          refine as_cons (a1_update (x := "datadict") (y := "dd") ⟨rfl, rfl, rfl, rfl⟩ ⟨rfl, rfl, rfl, rfl⟩ upd_same (upd_tag hd7 (f7 _ _ _ hd6 ht ht0) (fun e => ht (by rw [e]))) (fun e => ht (by rw [← e])) (by dsimp only at hml; omega) ?_)
          rw [upd_upd, ← mergeA_append]
          exact hrest
        · intro loc8 H8 d hg8 s8 f8
          refine ⟨n - 1, by omega, i + 1, loc8, by omega, hS.stab _ _ _ (hS.stab _ _ _ (hS.stab _ _ _ hI4 f5) f6) f8, by rw [GC.edges_take he]; exact hg8, ((s3.trans s5).trans s6).trans s8, (((f3.trans f4.r).trans f5.l).trans f6.l).trans f8.l, f8 _ _ _ ha6 (by simp) (by simp), hm1, hm2⟩
      · obtain rfl : i = es.length := by omega
        refine (hS.fin _ H3 rm' hI3).mono ?_
        rintro r H4 ⟨rfl, f4⟩
        refine as_nil ⟨rfl, loc3, ?_, s3, f3.trans f4.r⟩
        rw [List.take_length] at hg3
        exact hg3.frame f4 (Ne.symm hsg) hsv hg0
end
end Nx
end
section
set_option autoImplicit false
namespace Nx
abbrev NRow := Int × Option (List (Str × Int))
abbrev tK2 (gid : Nat) : Tag := ⟨gid + 2000, 0, []⟩
def NRow.more (e : NRow) : List (Str × Int) := e.2.getD []
def nItem (es : List NRow) (gid : Nat) (i : Nat) (x : AV) (H : AHeap) : Prop := ∃ n more, es[i]? = some (n, more) ∧ match more with
  | none => x = .int n
  | some more => ∃ dd t, x = .tup [.int n, .ref dd] ∧ H dd = some (t, .dS (nums more)) ∧ t.own ≠ gid ∧ t.own ≠ xo ∧ t.own ≠ gid + 2000
def GC.rows (kw : List (Str × Int)) (g : GC) (es : List NRow) : GC := es.foldl (fun g e => (g.node e.1).attr e.1 (mergeA kw e.more)) g
theorem GC.rows_take {kw : List (Str × Int)} {g : GC} {es : List NRow} {i : Nat} {e : NRow} (h : es[i]? = some e) : g.rows kw (es.take (i + 1)) = ((g.rows kw (es.take i)).node e.1).attr e.1 (mergeA kw e.more) := by
  unfold GC.rows
  rw [List.take_add_one, h, List.foldl_append]
  rfl
structure NRowOk (e : NRow) : Prop where
  n0 : 0 ≤ e.1
  n5 : e.1 < 5
  sm : Small e.more
section
variable {nf : Bool} {c : Cx} {A : Around} {H : AHeap} {gid : Nat} {dir : Bool} {C CN : Addr} {loc : Loc} {mm : List (Str × AV)} {g : GC}
abbrev sAN := gB 14
def forBody : Stmt → List Stmt
  | .For _ _ b _ _ => b
  | _ => []
theorem bind_an {kw : List (Str × Int)} (hkw : Kw1 kw) {cdv : Value} {x : AV} {u : AV} : BindOk c A H "Graph.add_nodes_from" (fpars sAN) (fbody sAN) (fscope sAN) .none .none cdv [x, u] (nums kw)
    (fun ab H' => ∃ d, H d = none ∧ H' = upd H d (tK gid, .dS (nums kw)) ∧ ab = ([("self", x), ("nodes_for_adding", u), ("attr", .ref d)] : List (Str × AV))) := by
  intro name doc pm an ct W s vs kvs ok h1 h2
  cases h1 with | cons r1 h1 => cases h1 with | cons r2 h1 => cases h1 with | nil =>
  rename_i v1 v2
  have hf : KV W [(("self" : Str), v1), ("nodes_for_adding", v2)] [("self", x), ("nodes_for_adding", u)] := .cons ⟨rfl, r1⟩ (.cons ⟨rfl, r2⟩ .nil)
  have fin : ∀ d bs s', H d = none → Post c W s H W s' (upd H d (tK gid, .dS (mergeA [] (nums kw)))) → KV W bs (([("self", x), ("nodes_for_adding", u)] : List (Str × AV)) ++ ([("attr", .ref d)] : List (Str × AV))) →
      ∃ W' H' ab, Post c W s H W' s' H' ∧ KV W' bs ab ∧ ∃ d, H d = none ∧ H' = upd H d (tK gid, .dS (nums kw)) ∧ ab = ([("self", x), ("nodes_for_adding", u), ("attr", .ref d)] : List (Str × AV)) := fun d bs s' hd p kb => by
    rw [hkw.merge] at p
    exact ⟨W, _, _, p, kb, d, hd, rfl, rfl⟩
  rcases hkw with rfl | ⟨n, i, rfl, hn⟩
  · cases h2
    exact kw_of_eq rfl (kw_bind (tK gid) (ex := []) (exA := []) ok .nil hf (by simp) fin)
  · cases h2 with | cons r4 h2 => cases h2 with | nil =>
    rename_i y
    obtain ⟨y1, y2⟩ := y
    obtain ⟨e1, r4⟩ := r4
    dsimp only at e1
    subst e1
    rcases hn with rfl | rfl | rfl
    all_goals exact kw_of_eq rfl (kw_bind (tK gid) (ex := [(_, y2)]) (exA := nums [(_, i)]) ok (.cons ⟨rfl, r4⟩ .nil) hf (by simp [nums]) fin)
theorem add_nodes_u {f : Addr} {cdv : Value} (hf : FnIs c f "Graph.add_nodes_from" (fpars sAN) (fbody sAN) (fscope sAN) .none .none cdv) (gT : c.mg "TypeError" = none) (bT : c.mb "TypeError" = some (.type "TypeError")) (xT : exmOne c.K (.type "TypeError") (.type "TypeError") = some true)
    (k : Kls c false C CN) {j sid : Nat} (rm : Rm A (j + 2)) (hg : GAt gid false C CN loc mm g H)
    {kw : List (Str × Int)} (hkw : Kw1 kw) {es : List NRow} (hes : ∀ e ∈ es, NRowOk e) {src : AV} (hsg : sid ≠ gid) (hsv : vid gid ≠ sid) (hsk : gid + 1000 ≠ sid) (hg0 : gid ≠ xo)
    (hsrc : ∀ A' H', Rm A' (j + 1) → Frame gid H H' → IterOk nf c A' H' src (fun it H'' => ∃ Inv, Src c (j + 1) gid sid it es.length (nItem es gid) Inv ∧ (∀ i H1 H2, Inv i H1 → Keeps H1 H2 → Inv i H2) ∧ Inv 0 H'' ∧ Frame sid H' H'')) :
    CallOk nf c A H (.ref f) [.ref (loc (tX gid)), src] (nums kw) (fun r H' => r = .none ∧ ∃ loc', GAt gid false C CN loc' mm (g.rows kw es) H' ∧ Same gid loc loc' ∧ Frame2 gid sid H H') (fun _ _ => False) := by
  refine call_fn hf rfl rm.room (bind_an (gid := gid) hkw) ?_ ?_
  · rintro ab H' ⟨d, hd, rfl, rfl⟩
    rfl
  · rintro L ab H1 ⟨da, hda, rfl, rfl⟩ hL
    have rm' := rm.deeper (envOf "Graph.add_nodes_from" (fscope sAN) L f cdv)
    have rm1 := rm'.less (j := 1) (by omega)
    have fr1 : Frame gid H (upd H da (tK gid, .dS (nums kw))) := Frame.new hda
    have hg1 : GAt gid false C CN loc mm g (upd H da (tK gid, .dS (nums kw))) := ⟨fun t o ht => upd_new hda (hg.at_ t o ht), hg.att, hg.wf, hg.nv_keep fr1 (Same.refl _ _)⟩
    have hat : upd H da (tK gid, .dS (nums kw)) da = some (tK gid, .dS (nums kw)) := upd_same
    refine as_cons (a1_forK (ae_pe (v := src) (pe_name rfl) ?_))
    intro W s u ok r
    refine wpN_mono (hsrc _ _ rm' fr1 W s u ok r) ?_ fun _ _ z => z.elim
    rintro o s' ⟨W', H2, it, rfl, p, Inv, hS, hK, hI, f2⟩
    refine ⟨W', H2, it, rfl, p, fun n m' H' => ∃ i loc', n + i = es.length ∧ Inv i H' ∧ GAt gid false C CN loc' mm (g.rows kw (es.take i)) H' ∧ Same gid loc loc' ∧ Frame2 gid sid H H' ∧ H' da = some (tK gid, .dS (nums kw)) ∧ m' "self" = some (.ref (loc (tX gid))) ∧ m' "attr" = some (.ref da), ?_, ?_⟩
    · exact ⟨es.length, 0, loc, by omega, hI, by rw [List.take_zero]; exact hg1.frame f2 (Ne.symm hsg) hsv hg0, Same.refl _ _, fr1.l.trans f2.r, f2 _ _ _ hat hsk (by simp), rfl, rfl⟩
    · rintro n m1 H3 ⟨i, loc3, hn, hI3, hg3, s3, f3, ha3, hm1, hm2⟩
      rcases Nat.lt_or_ge i es.length with hi | hi
      · refine (hS.step _ i H3 rm' hi hI3).mono ?_
        rintro r H4 ⟨x, rfl, ⟨ne, more, he, hx⟩, hI4, f4⟩
        have hro := hes _ (List.mem_of_getElem? he)
        have hg4 := hg3.frame f4 (Ne.symm hsg) hsv hg0
        have ha4 := f4 _ _ _ ha3 hsk (by simp)
        have hs3 : loc3 (tX gid) = loc (tX gid) := s3 (tX gid) rfl (by simp)
        have hm1' : m1 "self" = some (.ref (loc3 (tX gid))) := by rw [hs3]; exact hm1
        have hkl := hkw.length
        have hml := hro.sm.length
        have hmk := mergeA_length (NRow.more (ne, more)) kw
        have hsm : SmK (mergeA kw (NRow.more (ne, more))) := by
          have h1 : Small kw := ⟨by rcases hkw with rfl | ⟨_, _, rfl, _⟩ <;> simp, hkw.sm⟩
          exact (h1.merge hro.sm.2).2
        have rest : ∀ (Q : AFl → LM → AHeap → Prop), (∀ m₃ H₄ j i loc', j < n → j + i = es.length → Inv i H₄ → GAt gid false C CN loc' mm (g.rows kw (es.take i)) H₄ → Same gid loc loc' → Frame2 gid sid H H₄ → H₄ da = some (tK gid, .dS (nums kw)) → m₃ "self" = some (.ref (loc (tX gid))) → m₃ "attr" = some (.ref da) → Q .next m₃ H₄) →
            ∀ m' H' nd t', m' "self" = some (.ref (loc (tX gid))) → m' "attr" = some (.ref da) → m' "n" = some (.int ne) → m' "newnode" = some (.bool (!(look (refs (fun n => loc3 (tNd gid n)) (g.rows kw (es.take i)).keys) ne).isSome)) → m' "newdict" = some (.ref nd) →
            H' nd = some (t', .dS (nums (mergeA kw (NRow.more (ne, more))))) → t'.own ≠ gid → t'.own ≠ xo → GAt gid false C CN loc3 mm (g.rows kw (es.take i)) H' → Inv (i + 1) H' → H' da = some (tK gid, .dS (nums kw)) → Frame2 gid sid H H' →
            AS nf c (A.deeper (envOf "Graph.add_nodes_from" (fscope sAN) L f cdv)) (envOf "Graph.add_nodes_from" (fscope sAN) L f cdv) m' H' [pick (forBody (pick (fbody sAN) 0)) 1, pick (forBody (pick (fbody sAN) 0)) 2] Q (fun _ _ _ => False) := by
          intro Q hQ m' H' nd t' hm1' hm2' hmn hmw hmd hnd ht1 ht2 hg' hI' ha' fr'
          have fin : ∀ loc5 H5, GAt gid false C CN loc5 mm ((g.rows kw (es.take i)).node ne) H5 → Same gid loc3 loc5 → Frame gid H' H5 → AS nf c (A.deeper (envOf "Graph.add_nodes_from" (fscope sAN) L f cdv)) (envOf "Graph.add_nodes_from" (fscope sAN) L f cdv) m' H5 [pick (forBody (pick (fbody sAN) 0)) 2] Q (fun _ _ _ => False) := by
            intro loc5 H5 hg5 s5 f5
            have hs5 : loc5 (tX gid) = loc (tX gid) := (s5 (tX gid) rfl (by simp)).trans hs3
            refine as_cons (a1_attr (x := "n") (y := "newdict") (n := ne) k hg5 ⟨by rw [hs5]; exact hm1', rfl, rfl, rfl⟩ ⟨hmn, rfl, rfl, rfl⟩ ⟨hmd, rfl, rfl, rfl⟩ GC.mem_node (f5 _ _ _ hnd ht1 ht2) ht1 hsm (by dsimp only [NRow.more] at *; omega) fun H6 hg6 f6 => as_nil ?_)
            exact hQ _ _ (n - 1) (i + 1) loc5 (by omega) (by omega) (hS.stab _ _ _ (hS.stab _ _ _ hI' f5) f6) (by rw [GC.rows_take he]; exact hg6) (s3.trans s5) ((fr'.trans f5.l).trans f6.l) (f6 _ _ _ (f5 _ _ _ ha' (by simp) (by simp)) (by simp) (by simp)) hm1' hm2'
          cases z : look (g.rows kw (es.take i)).nodes ne with
          | some a =>
            have hk : ne ∈ (g.rows kw (es.take i)).keys := look_isSome.mp (by rw [z]; rfl)
            rw [look_refs, if_pos hk] at hmw
            refine as_cons (a1_if (b := false) (pb_bool (pe_name hmw)) (as_nil ?_))
            have := fin loc3 H'
            rw [GC.node_old (by rw [z]; rfl)] at this
            exact this hg' (Same.refl _ _) (Frame.refl _ _)
          | none =>
            have hk : ne ∉ (g.rows kw (es.take i)).keys := look_none.mp z
            rw [look_refs, if_neg hk] at hmw
            refine as_cons (a1_if (b := true) (pb_bool (pe_name hmw)) ?_)
            exact as_node_u (x := "n") (n := ne) k rm1 hg' ⟨by rw [hs3]; exact hm1', rfl, rfl, rfl⟩ ⟨hmn, rfl, rfl, rfl⟩ z hro.n0 hro.n5 fin
        refine asg_name ?_
        cases more with
        | none =>
          obtain rfl : x = .int ne := hx
          refine as_cons (a1_tryN (as_cons (a1_assign (pe_cmpF (pe_name rfl) (pe_own k (pe_name hm1') hg4.x hg4.d hg4.att.n) (cmp_nin_dI hg4.n).f) (as_cons (a1_assign (pe_name (by exact hm2)) (as_nil (as_nil ?_)))))))
          exact rest _ (fun m₃ H₄ j i loc' h1 h2 h3 h4 h5 h6 h7 h8 h9 => ⟨j, h1, i, loc', h2, h3, h4, h5, h6, h7, h8, h9⟩) _ H4 da (tK gid) hm1 hm2 rfl rfl rfl (by exact ha4) (by simp) (by simp) hg4 hI4 ha4 (f3.trans f4.r)
        | some more =>
          obtain ⟨dd, t, rfl, hdd, ht, ht0, ht2⟩ := hx
          refine as_cons (a1_try (as_cons (a1_assignE (ae_notIn_row (pe_name rfl) (pe_own k (pe_name hm1') hg4.x hg4.d hg4.att.n) hdd hg4.n rm'.h (by have := rm'.u; omega) fun e H5 x5 k5 => ⟨e, _, _, rfl, .inl x5, fun H6 k6 x6 => ?_⟩))))
          have k46 := k5.trans k6
          refine ah_cons (pe_blt gT bT) con_is x6 xT (fun H7 k7 x7 => ?_)
          have k47 := k46.trans k7
          have hg7 := hg4.keeps k47 hg0
          have ha7 := k47 _ _ _ ha4 (by simp)
          have hd7 := k47 _ _ _ hdd ht0
          refine as_cons (a1_assign_tuple (names := ["n", "ndict"]) (.cons (.cons .nil)) (by intro y hy; rcases List.mem_cons.mp hy with rfl | hy; rfl; rcases List.mem_cons.mp hy with rfl | hy; rfl; cases hy) (ae_pe (pe_name rfl) ⟨_, unp_tup (.inr ⟨e, _, _, rfl, x7⟩), rfl, ?_⟩))
          refine as_cons (a1_assign (pe_cmpF (pe_name rfl) (pe_own k (pe_name hm1') hg7.x hg7.d hg7.att.n) (cmp_nin_dI hg7.n).f) ?_)
          refine as_cons (a1_assignE (ae_bmeth F.slot_dict_copy F.plainAttrs_dict F.type_dict_copy (a := .ref da) (pe_name (by exact hm2)) (plainly_dS ha7) (al_nil ?_)))
          refine CallOk.mono (call_copy (tK2 gid) ha7) ?_ fun _ _ z => z
          rintro v H8 ⟨dn, hdn, rfl, rfl⟩
          refine as_cons (a1_update (x := "newdict") (y := "ndict") ⟨rfl, rfl, rfl, rfl⟩ ⟨rfl, rfl, rfl, rfl⟩ upd_same (upd_new hdn hd7) (fun e => ht2 (by rw [← e])) (by dsimp only [NRow.more, Option.getD] at *; omega) (as_nil ?_))
          rw [upd_upd]
          have f8 : ∀ G, Frame G H7 (upd H7 dn (tK2 gid, .dS (nums (mergeA kw more)))) := fun G => Frame.new hdn
          exact rest _ (fun m₃ H₄ j i loc' h1 h2 h3 h4 h5 h6 h7 h8 h9 => ⟨j, h1, i, loc', h2, h3, h4, h5, h6, h7, h8, h9⟩) _ _ dn (tK2 gid) hm1 hm2 rfl rfl rfl upd_same (by simp) (by simp) (hg7.frame (f8 (gid + 5000)) (by omega) (by unfold vid; omega) hg0) (hS.stab _ _ _ (hK _ _ _ hI4 k47) (f8 gid)) (upd_new hdn ha7) ((f3.trans f4.r).trans ((Frame.keeps (gid := gid) k47).l.trans (f8 gid).l))
      · obtain rfl : i = es.length := by omega
        refine (hS.fin _ H3 rm' hI3).mono ?_
        rintro r H4 ⟨rfl, f4⟩
        refine as_nil ⟨rfl, loc3, ?_, s3, f3.trans f4.r⟩
        rw [List.take_length] at hg3
        exact hg3.frame f4 (Ne.symm hsg) hsv hg0
end
end Nx
end
section
set_option autoImplicit false
namespace Nx
section
variable {nf : Bool} {c : Cx} {A : Around} {H : AHeap} {gid : Nat} {dir : Bool} {C CN : Addr} {loc : Loc} {mm : List (Str × AV)} {g : GC}
abbrev sANd := dB 6
theorem bind_and {kw : List (Str × Int)} (hkw : Kw1 kw) {cdv : Value} {x : AV} {u : AV} : BindOk c A H "DiGraph.add_nodes_from" (fpars sANd) (fbody sANd) (fscope sANd) .none .none cdv [x, u] (nums kw)
    (fun ab H' => ∃ d, H d = none ∧ H' = upd H d (tK gid, .dS (nums kw)) ∧ ab = ([("self", x), ("nodes_for_adding", u), ("attr", .ref d)] : List (Str × AV))) := by
  intro name doc pm an ct W s vs kvs ok h1 h2
  cases h1 with | cons r1 h1 => cases h1 with | cons r2 h1 => cases h1 with | nil =>
  rename_i v1 v2
  have hf : KV W [(("self" : Str), v1), ("nodes_for_adding", v2)] [("self", x), ("nodes_for_adding", u)] := .cons ⟨rfl, r1⟩ (.cons ⟨rfl, r2⟩ .nil)
  have fin : ∀ d bs s', H d = none → Post c W s H W s' (upd H d (tK gid, .dS (mergeA [] (nums kw)))) → KV W bs (([("self", x), ("nodes_for_adding", u)] : List (Str × AV)) ++ ([("attr", .ref d)] : List (Str × AV))) →
      ∃ W' H' ab, Post c W s H W' s' H' ∧ KV W' bs ab ∧ ∃ d, H d = none ∧ H' = upd H d (tK gid, .dS (nums kw)) ∧ ab = ([("self", x), ("nodes_for_adding", u), ("attr", .ref d)] : List (Str × AV)) := fun d bs s' hd p kb => by
    rw [hkw.merge] at p
    exact ⟨W, _, _, p, kb, d, hd, rfl, rfl⟩
  rcases hkw with rfl | ⟨n, i, rfl, hn⟩
  · cases h2
    exact kw_of_eq rfl (kw_bind (tK gid) (ex := []) (exA := []) ok .nil hf (by simp) fin)
  · cases h2 with | cons r4 h2 => cases h2 with | nil =>
    rename_i y
    obtain ⟨y1, y2⟩ := y
    obtain ⟨e1, r4⟩ := r4
    dsimp only at e1
    subst e1
    rcases hn with rfl | rfl | rfl
    all_goals exact kw_of_eq rfl (kw_bind (tK gid) (ex := [(_, y2)]) (exA := nums [(_, i)]) ok (.cons ⟨rfl, r4⟩ .nil) hf (by simp [nums]) fin)
theorem add_nodes_d {f : Addr} {cdv : Value} (hf : FnIs c f "DiGraph.add_nodes_from" (fpars sANd) (fbody sANd) (fscope sANd) .none .none cdv) (gT : c.mg "TypeError" = none) (bT : c.mb "TypeError" = some (.type "TypeError")) (xT : exmOne c.K (.type "TypeError") (.type "TypeError") = some true)
    (k : Kls c true C CN) {j sid : Nat} (rm : Rm A (j + 2)) (hg : GAt gid true C CN loc mm g H)
    {kw : List (Str × Int)} (hkw : Kw1 kw) {es : List NRow} (hes : ∀ e ∈ es, NRowOk e) {src : AV} (hsg : sid ≠ gid) (hsv : vid gid ≠ sid) (hsk : gid + 1000 ≠ sid) (hg0 : gid ≠ xo)
    (hsrc : ∀ A' H', Rm A' (j + 1) → Frame gid H H' → IterOk nf c A' H' src (fun it H'' => ∃ Inv, Src c (j + 1) gid sid it es.length (nItem es gid) Inv ∧ (∀ i H1 H2, Inv i H1 → Keeps H1 H2 → Inv i H2) ∧ Inv 0 H'' ∧ Frame sid H' H'')) :
    CallOk nf c A H (.ref f) [.ref (loc (tX gid)), src] (nums kw) (fun r H' => r = .none ∧ ∃ loc', GAt gid true C CN loc' mm (g.rows kw es) H' ∧ Same gid loc loc' ∧ Frame2 gid sid H H') (fun _ _ => False) := by
  refine call_fn hf rfl rm.room (bind_and (gid := gid) hkw) ?_ ?_
  · rintro ab H' ⟨d, hd, rfl, rfl⟩
    rfl
  · rintro L ab H1 ⟨da, hda, rfl, rfl⟩ hL
    have rm' := rm.deeper (envOf "DiGraph.add_nodes_from" (fscope sANd) L f cdv)
    have rm1 := rm'.less (j := 1) (by omega)
    have fr1 : Frame gid H (upd H da (tK gid, .dS (nums kw))) := Frame.new hda
    have hg1 : GAt gid true C CN loc mm g (upd H da (tK gid, .dS (nums kw))) := ⟨fun t o ht => upd_new hda (hg.at_ t o ht), hg.att, hg.wf, hg.nv_keep fr1 (Same.refl _ _)⟩
    have hat : upd H da (tK gid, .dS (nums kw)) da = some (tK gid, .dS (nums kw)) := upd_same
    refine as_cons (a1_forK (ae_pe (v := src) (pe_name rfl) ?_))
    intro W s u ok r
    refine wpN_mono (hsrc _ _ rm' fr1 W s u ok r) ?_ fun _ _ z => z.elim
    rintro o s' ⟨W', H2, it, rfl, p, Inv, hS, hK, hI, f2⟩
    refine ⟨W', H2, it, rfl, p, fun n m' H' => ∃ i loc', n + i = es.length ∧ Inv i H' ∧ GAt gid true C CN loc' mm (g.rows kw (es.take i)) H' ∧ Same gid loc loc' ∧ Frame2 gid sid H H' ∧ H' da = some (tK gid, .dS (nums kw)) ∧ m' "self" = some (.ref (loc (tX gid))) ∧ m' "attr" = some (.ref da), ?_, ?_⟩
    · exact ⟨es.length, 0, loc, by omega, hI, by rw [List.take_zero]; exact hg1.frame f2 (Ne.symm hsg) hsv hg0, Same.refl _ _, fr1.l.trans f2.r, f2 _ _ _ hat hsk (by simp), rfl, rfl⟩
    · rintro n m1 H3 ⟨i, loc3, hn, hI3, hg3, s3, f3, ha3, hm1, hm2⟩
      rcases Nat.lt_or_ge i es.length with hi | hi
      · refine (hS.step _ i H3 rm' hi hI3).mono ?_
        rintro r H4 ⟨x, rfl, ⟨ne, more, he, hx⟩, hI4, f4⟩
        have hro := hes _ (List.mem_of_getElem? he)
        have hg4 := hg3.frame f4 (Ne.symm hsg) hsv hg0
        have ha4 := f4 _ _ _ ha3 hsk (by simp)
        have hs3 : loc3 (tX gid) = loc (tX gid) := s3 (tX gid) rfl (by simp)
        have hm1' : m1 "self" = some (.ref (loc3 (tX gid))) := by rw [hs3]; exact hm1
        have hkl := hkw.length
        have hml := hro.sm.length
        have hmk := mergeA_length (NRow.more (ne, more)) kw
        have hsm : SmK (mergeA kw (NRow.more (ne, more))) := by
          have h1 : Small kw := ⟨by rcases hkw with rfl | ⟨_, _, rfl, _⟩ <;> simp, hkw.sm⟩
          exact (h1.merge hro.sm.2).2
        have rest : ∀ (Q : AFl → LM → AHeap → Prop), (∀ m₃ H₄ j i loc', j < n → j + i = es.length → Inv i H₄ → GAt gid true C CN loc' mm (g.rows kw (es.take i)) H₄ → Same gid loc loc' → Frame2 gid sid H H₄ → H₄ da = some (tK gid, .dS (nums kw)) → m₃ "self" = some (.ref (loc (tX gid))) → m₃ "attr" = some (.ref da) → Q .next m₃ H₄) →
            ∀ m' H' nd t', m' "self" = some (.ref (loc (tX gid))) → m' "attr" = some (.ref da) → m' "n" = some (.int ne) → m' "newnode" = some (.bool (!(look (refs (fun n => loc3 (tNd gid n)) (g.rows kw (es.take i)).keys) ne).isSome)) → m' "newdict" = some (.ref nd) →
            H' nd = some (t', .dS (nums (mergeA kw (NRow.more (ne, more))))) → t'.own ≠ gid → t'.own ≠ xo → GAt gid true C CN loc3 mm (g.rows kw (es.take i)) H' → Inv (i + 1) H' → H' da = some (tK gid, .dS (nums kw)) → Frame2 gid sid H H' →
            AS nf c (A.deeper (envOf "DiGraph.add_nodes_from" (fscope sANd) L f cdv)) (envOf "DiGraph.add_nodes_from" (fscope sANd) L f cdv) m' H' [pick (forBody (pick (fbody sANd) 0)) 1, pick (forBody (pick (fbody sANd) 0)) 2] Q (fun _ _ _ => False) := by
          intro Q hQ m' H' nd t' hm1' hm2' hmn hmw hmd hnd ht1 ht2 hg' hI' ha' fr'
          have fin : ∀ loc5 H5, GAt gid true C CN loc5 mm ((g.rows kw (es.take i)).node ne) H5 → Same gid loc3 loc5 → Frame gid H' H5 → AS nf c (A.deeper (envOf "DiGraph.add_nodes_from" (fscope sANd) L f cdv)) (envOf "DiGraph.add_nodes_from" (fscope sANd) L f cdv) m' H5 [pick (forBody (pick (fbody sANd) 0)) 2] Q (fun _ _ _ => False) := by
            intro loc5 H5 hg5 s5 f5
            have hs5 : loc5 (tX gid) = loc (tX gid) := (s5 (tX gid) rfl (by simp)).trans hs3
            refine as_cons (a1_attr (x := "n") (y := "newdict") (n := ne) k hg5 ⟨by rw [hs5]; exact hm1', rfl, rfl, rfl⟩ ⟨hmn, rfl, rfl, rfl⟩ ⟨hmd, rfl, rfl, rfl⟩ GC.mem_node (f5 _ _ _ hnd ht1 ht2) ht1 hsm (by dsimp only [NRow.more] at *; omega) fun H6 hg6 f6 => as_nil ?_)
            exact hQ _ _ (n - 1) (i + 1) loc5 (by omega) (by omega) (hS.stab _ _ _ (hS.stab _ _ _ hI' f5) f6) (by rw [GC.rows_take he]; exact hg6) (s3.trans s5) ((fr'.trans f5.l).trans f6.l) (f6 _ _ _ (f5 _ _ _ ha' (by simp) (by simp)) (by simp) (by simp)) hm1' hm2'
          cases z : look (g.rows kw (es.take i)).nodes ne with
          | some a =>
            have hk : ne ∈ (g.rows kw (es.take i)).keys := look_isSome.mp (by rw [z]; rfl)
            rw [look_refs, if_pos hk] at hmw
            refine as_cons (a1_if (b := false) (pb_bool (pe_name hmw)) (as_nil ?_))
            have := fin loc3 H'
            rw [GC.node_old (by rw [z]; rfl)] at this
            exact this hg' (Same.refl _ _) (Frame.refl _ _)
          | none =>
            have hk : ne ∉ (g.rows kw (es.take i)).keys := look_none.mp z
            rw [look_refs, if_neg hk] at hmw
            refine as_cons (a1_if (b := true) (pb_bool (pe_name hmw)) ?_)
            exact as_node_d (x := "n") (n := ne) k rm1 hg' ⟨by rw [hs3]; exact hm1', rfl, rfl, rfl⟩ ⟨hmn, rfl, rfl, rfl⟩ z hro.n0 hro.n5 fin
        refine asg_name ?_
        cases more with
        | none =>
          obtain rfl : x = .int ne := hx
          refine as_cons (a1_tryN (as_cons (a1_assign (pe_cmpF (pe_name rfl) (pe_own k (pe_name hm1') hg4.x hg4.d hg4.att.n) (cmp_nin_dI hg4.n).f) (as_cons (a1_assign (pe_name (by exact hm2)) (as_nil (as_nil ?_)))))))
          exact rest _ (fun m₃ H₄ j i loc' h1 h2 h3 h4 h5 h6 h7 h8 h9 => ⟨j, h1, i, loc', h2, h3, h4, h5, h6, h7, h8, h9⟩) _ H4 da (tK gid) hm1 hm2 rfl rfl rfl (by exact ha4) (by simp) (by simp) hg4 hI4 ha4 (f3.trans f4.r)
        | some more =>
          obtain ⟨dd, t, rfl, hdd, ht, ht0, ht2⟩ := hx
          refine as_cons (a1_try (as_cons (a1_assignE (ae_notIn_row (pe_name rfl) (pe_own k (pe_name hm1') hg4.x hg4.d hg4.att.n) hdd hg4.n rm'.h (by have := rm'.u; omega) fun e H5 x5 k5 => ⟨e, _, _, rfl, .inl x5, fun H6 k6 x6 => ?_⟩))))
          have k46 := k5.trans k6
          refine ah_cons (pe_blt gT bT) con_is x6 xT (fun H7 k7 x7 => ?_)
          have k47 := k46.trans k7
          have hg7 := hg4.keeps k47 hg0
          have ha7 := k47 _ _ _ ha4 (by simp)
          have hd7 := k47 _ _ _ hdd ht0
          refine as_cons (a1_assign_tuple (names := ["n", "ndict"]) (.cons (.cons .nil)) (by intro y hy; rcases List.mem_cons.mp hy with rfl | hy; rfl; rcases List.mem_cons.mp hy with rfl | hy; rfl; cases hy) (ae_pe (pe_name rfl) ⟨_, unp_tup (.inr ⟨e, _, _, rfl, x7⟩), rfl, ?_⟩))
          refine as_cons (a1_assign (pe_cmpF (pe_name rfl) (pe_own k (pe_name hm1') hg7.x hg7.d hg7.att.n) (cmp_nin_dI hg7.n).f) ?_)
          refine as_cons (a1_assignE (ae_bmeth F.slot_dict_copy F.plainAttrs_dict F.type_dict_copy (a := .ref da) (pe_name (by exact hm2)) (plainly_dS ha7) (al_nil ?_)))
          refine CallOk.mono (call_copy (tK2 gid) ha7) ?_ fun _ _ z => z
          rintro v H8 ⟨dn, hdn, rfl, rfl⟩
          refine as_cons (a1_update (x := "newdict") (y := "ndict") ⟨rfl, rfl, rfl, rfl⟩ ⟨rfl, rfl, rfl, rfl⟩ upd_same (upd_new hdn hd7) (fun e => ht2 (by rw [← e])) (by dsimp only [NRow.more, Option.getD] at *; omega) (as_nil ?_))
          rw [upd_upd]
          have f8 : ∀ G, Frame G H7 (upd H7 dn (tK2 gid, .dS (nums (mergeA kw more)))) := fun G => Frame.new hdn
          exact rest _ (fun m₃ H₄ j i loc' h1 h2 h3 h4 h5 h6 h7 h8 h9 => ⟨j, h1, i, loc', h2, h3, h4, h5, h6, h7, h8, h9⟩) _ _ dn (tK2 gid) hm1 hm2 rfl rfl rfl upd_same (by simp) (by simp) (hg7.frame (f8 (gid + 5000)) (by omega) (by unfold vid; omega) hg0) (hS.stab _ _ _ (hK _ _ _ hI4 k47) (f8 gid)) (upd_new hdn ha7) ((f3.trans f4.r).trans ((Frame.keeps (gid := gid) k47).l.trans (f8 gid).l))
      · obtain rfl : i = es.length := by omega
        refine (hS.fin _ H3 rm' hI3).mono ?_
        rintro r H4 ⟨rfl, f4⟩
        refine as_nil ⟨rfl, loc3, ?_, s3, f3.trans f4.r⟩
        rw [List.take_length] at hg3
        exact hg3.frame f4 (Ne.symm hsg) hsv hg0
end
end Nx
end
section
set_option autoImplicit false
namespace Nx
section
variable {nf : Bool} {c : Cx} {A : Around} {H : AHeap} {gid : Nat} {dir : Bool} {C CN : Addr} {loc : Loc} {mm : List (Str × AV)} {g : GC}
abbrev sGI := gB 7
theorem init_u {f T : Addr} {oT : Obj} {nT : Nat} {cdv : Value} (hf : FnIs c f "Graph.__init__" (fpars sGI) (fbody sGI) (fscope sGI) (.ref T) .none cdv) (hT : c.K.lookup T = some oT) (hTd : oT.data = .seq #[.none] nT)
    (k : Kls c false C CN) (rm : Rm A 2) {x dx : Addr} (hx : H x = none) (hdx : H dx = none) (hne : x ≠ dx) :
    CallOk nf c A (upd (upd H dx (tD gid, .nS [])) x (tX gid, .inst C dx)) (.ref f) [.ref x] [] (fun r H' => r = .none ∧ ∃ (loc : Loc) (mm : List (Str × AV)), loc (tX gid) = x ∧ look mm "nodes" = none ∧ look mm "adj" = none ∧ GAt gid false C CN loc mm GC.empty H' ∧ Frame gid H H') (fun _ _ => False) := by
  have A0 : At (fun _ => 0) (fun _ => none) H := fun _ _ h => nomatch h
  have A1 := A0.new (t := tD gid) (.nS []) hdx rfl
  have A2 := A1.new (t := tX gid) (.inst C dx) ((upd_ne hne).trans hx) (by simp [wset])
  have fr2 : Frame gid H (upd (upd H dx (tD gid, .nS [])) x (tX gid, .inst C dx)) := (Frame.new hdx).trans (Frame.new ((upd_ne hne).trans hx))
  refine call_fn (P := fun ab H' => ∃ d, upd (upd H dx (tD gid, .nS [])) x (tX gid, .inst C dx) d = none ∧ H' = upd (upd (upd H dx (tD gid, .nS [])) x (tX gid, .inst C dx)) d (tK gid, .dS []) ∧ ab = ([("self", .ref x), ("incoming_graph_data", .none), ("attr", .ref d)] : List (Str × AV))) hf rfl rm.room ?_ ?_ ?_
  · intro name doc pm an ct W s vs kvs ok h1 h2
    cases h2
    cases h1 with | cons r1 h1 => cases h1 with | nil =>
    rename_i v1
    refine kw_of_defaults (ex := []) (front := [(("self" : Str), v1), ("incoming_graph_data", .none)]) (nm := "attr") rfl (ok.kin _ _ hT) hTd rfl rfl ?_
    refine kw_bind (tK gid) (exA := []) (frontA := [("self", .ref x), ("incoming_graph_data", .none)]) ok .nil (.cons ⟨rfl, r1⟩ (.cons ⟨rfl, VR.none'⟩ .nil)) (by simp) ?_
    intro d bs s' hd p kb
    exact ⟨W, _, _, p, kb, d, hd, rfl, rfl⟩
  · rintro ab H' ⟨d, hd, rfl, rfl⟩
    rfl
  · rintro L ab H1 ⟨da, hda, rfl, rfl⟩ hL
    have rm' := rm.deeper (envOf "Graph.__init__" (fscope sGI) L f cdv)
    have A3 := A2.new (t := tK gid) (.dS []) hda (by simp [wset])
    have fr3 := fr2.trans (Frame.new (x := (tK gid, AObj.dS [])) hda)
    refine as_cons (a1_setfac (gid := gid) (x := x) (d := dx) (l := []) (t0 := tG gid) (o0 := .dS []) k rm' A3 ⟨rfl, rfl, rfl, rfl⟩ (by simp [lset]) (by simp [lset]) (by simp [wset]) (by simp [wset]) (by simp [wset]) rfl k.graphF rfl (by simp) (by decide) fun ga H4 A4 f4 => ?_)
    refine as_cons (a1_setfac (gid := gid) (x := x) (d := dx) (t0 := tN gid) (o0 := .dI []) k rm' A4 ⟨rfl, rfl, rfl, rfl⟩ (by simp [lset]) (by simp [lset]) (by simp [wset]) (by simp [wset]; rfl) (by simp [wset]) rfl k.nodesF rfl (by show 1 < 100; decide) (by decide) fun na H5 A5 f5 => ?_)
    refine as_cons (a1_setfac (gid := gid) (x := x) (d := dx) (t0 := tA gid) (o0 := .dI []) k rm' A5 ⟨rfl, rfl, rfl, rfl⟩ (by simp [lset]) (by simp [lset]) (by simp [wset]) (by simp [wset]; rfl) (by simp [wset]) rfl k.outerF rfl (by show 2 < 100; decide) (by decide) fun aa H6 A6 f6 => ?_)
    have hd6 : H6 da = some (tK gid, .dS []) := A6.get (by simp [wset]) (by simp [lset])
    have hx6 : H6 x = some (tX gid, .inst C dx) := A6.get (by simp [wset]) (by simp [lset])
    have hg6 : H6 ga = some (tG gid, .dS []) := A6.get (by simp [wset]) (by simp [lset])
    have hdx6 : H6 dx = some (tD gid, .nS [("graph", .ref ga), ("_node", .ref na), ("_adj", .ref aa)]) := A6.get (by simp [wset]; rfl) (by simp [lset])
    refine as_cons (a1_expr (ae_bmeth F.slot_dict_pop F.plainAttrs_dict F.type_dict_pop (a := .ref da) (pe_name rfl) (plainly_dS hd6) ?_))
    refine al_cons (ae_pe pe_str (al_cons (ae_pe pe_none (al_nil ?_))))
    refine CallOk.mono (call_pop_none hd6 rfl) ?_ fun _ _ z => z
    rintro v H7 ⟨rfl, rfl⟩
    refine ⟨rfl, ?_⟩
    have hne2 : ga ≠ da := fun e => by rw [e, hd6] at hg6; cases hg6
    refine as_cons (a1_expr (ae_bmeth F.slot_dict_update F.plainAttrs_dict F.type_dict_update (a := .ref ga) (pe_own k (pe_name rfl) hx6 hdx6 rfl) (plainly_dS hg6) ?_))
    refine al_cons (ae_pe (pe_name rfl) (al_nil ?_))
    refine CallOk.mono (call_update hg6 hd6 hne2 (by simp [mergeA])) ?_ fun _ _ z => z
    rintro v H8 ⟨rfl, rfl⟩
    rw [show mergeA ([] : List (Str × AV)) [] = [] from rfl, upd_eq hg6]
    refine ⟨rfl, as_nil ⟨rfl, _, [("graph", .ref ga), ("_node", .ref na), ("_adj", .ref aa)], ?_, rfl, rfl, ⟨A6.weak (w' := wantG gid false C _ _ GC.empty) ?_, ?_, Wf.empty _, .inl rfl⟩, ((fr3.trans (f4 _ rfl rfl)).trans (f5 _ rfl rfl)).trans (f6 _ rfl rfl)⟩⟩
    · simp [lset]
    · rintro ⟨own, role, key⟩ o h
      unfold wantG at h
      dsimp only at h
      by_cases e : own = gid
      · subst e
        rw [if_pos rfl] at h
        split at h
        all_goals first
          | (simp [GC.empty, look] at h; done)
          | (simp [wset, lset, GC.empty, GC.keys, refs, nums] at h ⊢; exact h)
          | cases h
      · rw [if_neg e] at h; cases h
    · refine ⟨?_, ?_, ?_, fun h => (nomatch h), fun h => (nomatch h), .inl rfl, fun name hn => ?_, by show 3 + 1 + 1 ≤ 20; decide⟩
      · simp [lset, look]
      · simp [lset]; rfl
      · simp [lset]; rfl
      · refine look_none.mpr fun h => hn ?_
        simp at h ⊢
        rcases h with h | h | h <;> simp [h]
end
end Nx
end
section
set_option autoImplicit false
namespace Nx
section
variable {nf : Bool} {c : Cx} {A : Around} {H : AHeap} {gid : Nat} {dir : Bool} {C CN : Addr} {loc : Loc} {mm : List (Str × AV)} {g : GC}
abbrev sGId := dB 1
theorem init_d {f T : Addr} {oT : Obj} {nT : Nat} {cdv : Value} (hf : FnIs c f "DiGraph.__init__" (fpars sGId) (fbody sGId) (fscope sGId) (.ref T) .none cdv) (hT : c.K.lookup T = some oT) (hTd : oT.data = .seq #[.none] nT)
    (k : Kls c true C CN) (rm : Rm A 2) {x dx : Addr} (hx : H x = none) (hdx : H dx = none) (hne : x ≠ dx) :
    CallOk nf c A (upd (upd H dx (tD gid, .nS [])) x (tX gid, .inst C dx)) (.ref f) [.ref x] [] (fun r H' => r = .none ∧ ∃ (loc : Loc) (mm : List (Str × AV)), loc (tX gid) = x ∧ look mm "nodes" = none ∧ look mm "adj" = none ∧ GAt gid true C CN loc mm GC.empty H' ∧ Frame gid H H') (fun _ _ => False) := by
  have A0 : At (fun _ => 0) (fun _ => none) H := fun _ _ h => nomatch h
  have A1 := A0.new (t := tD gid) (.nS []) hdx rfl
  have A2 := A1.new (t := tX gid) (.inst C dx) ((upd_ne hne).trans hx) (by simp [wset])
  have fr2 : Frame gid H (upd (upd H dx (tD gid, .nS [])) x (tX gid, .inst C dx)) := (Frame.new hdx).trans (Frame.new ((upd_ne hne).trans hx))
  refine call_fn (P := fun ab H' => ∃ d, upd (upd H dx (tD gid, .nS [])) x (tX gid, .inst C dx) d = none ∧ H' = upd (upd (upd H dx (tD gid, .nS [])) x (tX gid, .inst C dx)) d (tK gid, .dS []) ∧ ab = ([("self", .ref x), ("incoming_graph_data", .none), ("attr", .ref d)] : List (Str × AV))) hf rfl rm.room ?_ ?_ ?_
  · intro name doc pm an ct W s vs kvs ok h1 h2
    cases h2
    cases h1 with | cons r1 h1 => cases h1 with | nil =>
    rename_i v1
    refine kw_of_defaults (ex := []) (front := [(("self" : Str), v1), ("incoming_graph_data", .none)]) (nm := "attr") rfl (ok.kin _ _ hT) hTd rfl rfl ?_
    refine kw_bind (tK gid) (exA := []) (frontA := [("self", .ref x), ("incoming_graph_data", .none)]) ok .nil (.cons ⟨rfl, r1⟩ (.cons ⟨rfl, VR.none'⟩ .nil)) (by simp) ?_
    intro d bs s' hd p kb
    exact ⟨W, _, _, p, kb, d, hd, rfl, rfl⟩
  · rintro ab H' ⟨d, hd, rfl, rfl⟩
    rfl
  · rintro L ab H1 ⟨da, hda, rfl, rfl⟩ hL
    have rm' := rm.deeper (envOf "DiGraph.__init__" (fscope sGId) L f cdv)
    have A3 := A2.new (t := tK gid) (.dS []) hda (by simp [wset])
    have fr3 := fr2.trans (Frame.new (x := (tK gid, AObj.dS [])) hda)
    refine as_cons (a1_setfac (gid := gid) (x := x) (d := dx) (l := []) (t0 := tG gid) (o0 := .dS []) k rm' A3 ⟨rfl, rfl, rfl, rfl⟩ (by simp [lset]) (by simp [lset]) (by simp [wset]) (by simp [wset]) (by simp [wset]) rfl k.graphF rfl (by simp) (by decide) fun ga H4 A4 f4 => ?_)
    refine as_cons (a1_setfac (gid := gid) (x := x) (d := dx) (t0 := tN gid) (o0 := .dI []) k rm' A4 ⟨rfl, rfl, rfl, rfl⟩ (by simp [lset]) (by simp [lset]) (by simp [wset]) (by simp [wset]; rfl) (by simp [wset]) rfl k.nodesF rfl (by show 1 < 100; decide) (by decide) fun na H5 A5 f5 => ?_)
    refine as_cons (a1_setfac (gid := gid) (x := x) (d := dx) (t0 := tA gid) (o0 := .dI []) k rm' A5 ⟨rfl, rfl, rfl, rfl⟩ (by simp [lset]) (by simp [lset]) (by simp [wset]) (by simp [wset]; rfl) (by simp [wset]) rfl k.outerF rfl (by show 2 < 100; decide) (by decide) fun aa H6 A6 f6 => ?_)
    refine as_cons (a1_setown (gid := gid) (x := x) (d := dx) (a := aa) k A6 ⟨rfl, rfl, rfl, rfl⟩ (by simp [lset]) (by simp [lset]) (by simp [wset]) (by simp [wset]; rfl) rfl (by show 3 < 100; decide) (by decide) (by decide) fun H6a A6a f6a => ?_)
    refine as_cons (a1_setfac (gid := gid) (x := x) (d := dx) (t0 := tP gid) (o0 := .dI []) k rm' A6a ⟨rfl, rfl, rfl, rfl⟩ (by simp [lset]) (by simp [lset]) (by simp [wset]) (by simp [wset]; rfl) (by simp [wset]) rfl k.outerF rfl (by show 4 < 100; decide) (by decide) fun pa H6b A6b f6b => ?_)
    have hd6 : H6b da = some (tK gid, .dS []) := A6b.get (by simp [wset]) (by simp [lset])
    have hx6 : H6b x = some (tX gid, .inst C dx) := A6b.get (by simp [wset]) (by simp [lset])
    have hg6 : H6b ga = some (tG gid, .dS []) := A6b.get (by simp [wset]) (by simp [lset])
    have hdx6 : H6b dx = some (tD gid, .nS [("graph", .ref ga), ("_node", .ref na), ("_adj", .ref aa), ("_succ", .ref aa), ("_pred", .ref pa)]) := A6b.get (by simp [wset]; rfl) (by simp [lset])
    refine as_cons (a1_expr (ae_bmeth F.slot_dict_pop F.plainAttrs_dict F.type_dict_pop (a := .ref da) (pe_name rfl) (plainly_dS hd6) ?_))
    refine al_cons (ae_pe pe_str (al_cons (ae_pe pe_none (al_nil ?_))))
    refine CallOk.mono (call_pop_none hd6 rfl) ?_ fun _ _ z => z
    rintro v H7 ⟨rfl, rfl⟩
    refine ⟨rfl, ?_⟩
    have hne2 : ga ≠ da := fun e => by rw [e, hd6] at hg6; cases hg6
    refine as_cons (a1_expr (ae_bmeth F.slot_dict_update F.plainAttrs_dict F.type_dict_update (a := .ref ga) (pe_own k (pe_name rfl) hx6 hdx6 rfl) (plainly_dS hg6) ?_))
    refine al_cons (ae_pe (pe_name rfl) (al_nil ?_))
    refine CallOk.mono (call_update hg6 hd6 hne2 (by simp [mergeA])) ?_ fun _ _ z => z
    rintro v H8 ⟨rfl, rfl⟩
    rw [show mergeA ([] : List (Str × AV)) [] = [] from rfl, upd_eq hg6]
    refine ⟨rfl, as_nil ⟨rfl, _, [("graph", .ref ga), ("_node", .ref na), ("_adj", .ref aa), ("_succ", .ref aa), ("_pred", .ref pa)], ?_, rfl, rfl, ⟨A6b.weak (w' := wantG gid true C _ _ GC.empty) ?_, ?_, Wf.empty _, .inl rfl⟩, ((((fr3.trans (f4 _ rfl rfl)).trans (f5 _ rfl rfl)).trans (f6 _ rfl rfl)).trans f6a).trans (f6b _ rfl rfl)⟩⟩
    · simp [lset]
    · rintro ⟨own, role, key⟩ o h
      unfold wantG at h
      dsimp only at h
      by_cases e : own = gid
      · subst e
        rw [if_pos rfl] at h
        split at h
        all_goals first
          | (simp [GC.empty, look] at h; done)
          | (simp [wset, lset, GC.empty, GC.keys, refs, nums] at h ⊢; exact h)
          | cases h
      · rw [if_neg e] at h; cases h
    · refine ⟨?_, ?_, ?_, fun _ => ?_, fun _ => ?_, .inl rfl, fun name hn => ?_, by show 5 + 1 + 1 ≤ 20; decide⟩
      · simp [lset, look]
      · simp [lset]; rfl
      · simp [lset]; rfl
      · simp [lset]; rfl
      · simp [lset]; rfl
      · refine look_none.mpr fun h => hn ?_
        simp at h ⊢
        rcases h with h | h | h | h | h <;> simp [h]
end
end Nx
end
section
set_option autoImplicit false
namespace Nx
section
variable {nf : Bool} {c : Cx} {A : Around} {H : AHeap} {gid : Nat} {dir : Bool} {C CN : Addr} {loc : Loc} {mm : List (Str × AV)} {g : GC}
abbrev sHE := gB 25
theorem has_edge_ok {f : Addr} {cdv : Value} (hf : FnIs c f "Graph.has_edge" (fpars sHE) (fbody sHE) (fscope sHE) .none .none cdv) (gK : c.mg "KeyError" = none) (bK : c.mb "KeyError" = some (.type "KeyError")) (xK : exmOne c.K (.type "KeyError") (.type "KeyError") = some true)
    (k : Kls c dir C CN) (rm : Rm A 1) (hg : GAt gid dir C CN loc mm g H) (hg0 : gid ≠ xo) {u v : Int} :
    CallOk nf c A H (.ref f) [.ref (loc (tX gid)), .int u, .int v] [] (fun r H' => r = .bool (g.eg (ek dir u v)).isSome ∧ Keeps H H') (fun _ _ => False) := by
  refine call_fn (P := fun ab H' => ab = ([("self", .ref (loc (tX gid))), ("u", .int u), ("v", .int v)] : List (Str × AV)) ∧ H' = H) hf rfl rm.room ?_ ?_ ?_
  · intro name doc pm an ct W s vs kvs ok h1 h2
    cases h2
    cases h1 with | cons r1 h1 => cases h1 with | cons r2 h1 => cases h1 with | cons r3 h1 => cases h1 with | nil =>
    rename_i v1 v2 v3
    refine BindsTo.of_eq (binds := [("self", v1), ("u", v2), ("v", v3)]) rfl _ _ _ _ ⟨W, H, _, Post.refl ok, ?_, rfl, rfl⟩
    exact .cons ⟨rfl, r1⟩ (.cons ⟨rfl, r2⟩ (.cons ⟨rfl, r3⟩ .nil))
  · rintro ab H' ⟨rfl, rfl⟩
    rfl
  · rintro L ab H' ⟨rfl, rfl⟩ hL
    have rm' := rm.deeper (envOf "Graph.has_edge" (fscope sHE) L f cdv)
    by_cases hu : u ∈ g.keys
    · refine as_cons (a1_tryN (as_cons (a1_return (pe_cmpF (pe_name rfl) (pe_row k ⟨rfl, rfl, rfl, rfl⟩ ⟨rfl, rfl, rfl, rfl⟩ hg.x hg.d hg.att.a hg.a hu) (cmp_in_dI (hg.ad hu)).f) ?_)))
      refine ⟨?_, Keeps.refl _⟩
      show AV.bool _ = _
      rw [look_refs]
      have := hg.wf.adjI u v
      by_cases z : v ∈ g.adj u
      · rw [if_pos z, this.mp z]; rfl
      · rw [if_neg z]
        cases q : (g.eg (ek dir u v)).isSome with
        | true => exact absurd (this.mpr q) z
        | false => rfl
    · have hnone : (g.eg (ek dir u v)).isSome = false := by
        cases q : (g.eg (ek dir u v)).isSome with
        | false => rfl
        | true => exact absurd (hg.wf.adjk ((hg.wf.adjI u v).mpr q)).1 hu
      rw [hnone]
      refine as_cons (a1_try (as_cons (a1_returnE (ae_cmpE (ae_pe (v := .int v) (pe_name rfl) (ae_sub_miss (pe_own k (pe_name rfl) hg.x hg.d hg.att.a) (pe_name rfl) hg.a (by rw [look_refs, if_neg hu]) rm'.h rfl fun e H5 x5 k5 => ⟨e, _, _, rfl, .inl x5, fun H6 k6 x6 => ?_⟩))))))
      refine ah_cons (pe_blt gK bK) con_is x6 xK (fun H7 k7 x7 => ?_)
      exact as_cons (a1_return pe_bool ⟨rfl, (k5.trans k6).trans k7⟩)
abbrev sCo := gB 10
theorem contains_ok {f : Addr} {cdv : Value} (hf : FnIs c f "Graph.__contains__" (fpars sCo) (fbody sCo) (fscope sCo) .none .none cdv) (k : Kls c dir C CN) (rm : Rm A 1) (hg : GAt gid dir C CN loc mm g H) {n : Int} :
    CallOk nf c A H (.ref f) [.ref (loc (tX gid)), .int n] [] (fun r H' => r = .bool (decide (n ∈ g.keys)) ∧ H' = H) (fun _ _ => False) := by
  refine call_fn (P := fun ab H' => ab = ([("self", .ref (loc (tX gid))), ("n", .int n)] : List (Str × AV)) ∧ H' = H) hf rfl rm.room ?_ ?_ ?_
  · intro name doc pm an ct W s vs kvs ok h1 h2
    cases h2
    cases h1 with | cons r1 h1 => cases h1 with | cons r2 h1 => cases h1 with | nil =>
    rename_i v1 v2
    refine BindsTo.of_eq (binds := [("self", v1), ("n", v2)]) rfl _ _ _ _ ⟨W, H, _, Post.refl ok, ?_, rfl, rfl⟩
    exact .cons ⟨rfl, r1⟩ (.cons ⟨rfl, r2⟩ .nil)
  · rintro ab H' ⟨rfl, rfl⟩
    rfl
  · rintro L ab H' ⟨rfl, rfl⟩ hL
    refine as_cons (a1_tryN (as_cons (a1_return (pe_cmpF (pe_name rfl) (pe_own k (pe_name rfl) hg.x hg.d hg.att.n) (cmp_in_dI hg.n).f) ?_)))
    refine ⟨?_, rfl⟩
    show AV.bool _ = _
    rw [look_refs]
    by_cases z : n ∈ g.keys
    · rw [if_pos z, decide_eq_true z]; rfl
    · rw [if_neg z, decide_eq_false z]; rfl
end
end Nx
end
section
set_option autoImplicit false
namespace Nx
/-- what the neighbours' iterator stands for -/
def NbrIt (H : AHeap) (d : Addr) (t' t : Tag) (l : List (Int × AV)) (it : Addr) (H' : AHeap) : Prop := H it = none ∧ ∃ ob, H' = upd (upd H d (t', .pin ob (.dI l))) it (t, keyIt d 0 l.length (epOf ob))
section
variable {nf : Bool} {c : Cx} {A : Around} {H : AHeap} {gid : Nat} {dir : Bool} {C CN CE : Addr} {loc : Loc} {mm : List (Str × AV)} {g : GC}
abbrev sNb := gB 26
theorem neighbors_ok (t : Tag) {f : Addr} {cdv : Value} (hf : FnIs c f "Graph.neighbors" (fpars sNb) (fbody sNb) (fscope sNb) .none .none cdv) (gK : c.mg "KeyError" = none) (bK : c.mb "KeyError" = some (.type "KeyError")) (xK : exmOne c.K (.type "KeyError") (.type "KeyError") = some true)
    (gI : c.mg "iter" = none) (bI : c.mb "iter" = some (.builtin "iter")) (gE : c.mg "NetworkXError" = some (.ref CE)) (hE : ExcC c CE) (hKE : subIn c.K (.type "KeyError") (.type "BaseException") = some true)
    (k : Kls c dir C CN) (rm : Rm A 1) (hg : GAt gid dir C CN loc mm g H) (hg0 : gid ≠ xo) {n : Int} (h0 : 0 ≤ n) (h9 : n < 10) :
    CallOk nf c A H (.ref f) [.ref (loc (tX gid)), .int n] [] (fun r H' => n ∈ g.keys ∧ ∃ it, r = .ref it ∧ NbrIt H (loc (tAd gid n)) (tAd gid n) t (refs (fun v => loc (tEd gid (ek dir n v))) (g.adj n)) it H')
      (fun e H' => n ∉ g.keys ∧ Keeps H H' ∧ ∃ x cx, e = .ref x ∧ ExcAt H' x (.ref CE) cx .none) := by
  refine call_fn (P := fun ab H' => ab = ([("self", .ref (loc (tX gid))), ("n", .int n)] : List (Str × AV)) ∧ H' = H) hf rfl rm.room ?_ ?_ ?_
  · intro name doc pm an ct W s vs kvs ok h1 h2
    cases h2
    cases h1 with | cons r1 h1 => cases h1 with | cons r2 h1 => cases h1 with | nil =>
    rename_i v1 v2
    refine BindsTo.of_eq (binds := [("self", v1), ("n", v2)]) rfl _ _ _ _ ⟨W, H, _, Post.refl ok, ?_, rfl, rfl⟩
    exact .cons ⟨rfl, r1⟩ (.cons ⟨rfl, r2⟩ .nil)
  · rintro ab H' ⟨rfl, rfl⟩
    rfl
  · rintro L ab H' ⟨rfl, rfl⟩ hL
    have rm' := rm.deeper (envOf "Graph.neighbors" (fscope sNb) L f cdv)
    by_cases hu : n ∈ g.keys
    · refine as_cons (a1_tryN (as_cons (a1_returnE (ae_callW (pe_blt gI bI) con_is keep_builtin (al_cons (ae_pe (pe_row k ⟨rfl, rfl, rfl, rfl⟩ ⟨rfl, rfl, rfl, rfl⟩ hg.x hg.d hg.att.a hg.a hu) (al_nil ?_)))))))
      refine CallW.mono (cw_iter (E' := fun _ _ => False) (iter_dI t (hg.ad hu))) ?_ fun _ _ z => z.elim
      rintro r H1 ⟨it, rfl, hit, ob, rfl⟩
      exact ⟨hu, it, rfl, hit, ob, rfl⟩
    · refine as_cons (a1_try (as_cons (a1_returnE (ae_callW (pe_blt gI bI) con_is keep_builtin (al_cons (ae_sub_miss (pe_own k (pe_name rfl) hg.x hg.d hg.att.a) (pe_name rfl) hg.a (by rw [look_refs, if_neg hu]) rm'.h rfl fun e H5 x5 k5 => ⟨e, _, _, rfl, .inl x5, fun H6 k6 x6 => ?_⟩))))))
      refine ah_as (pe_blt gK bK) con_is x6 xK (fun H7 k7 x7 => ?_)
      refine as_cons (a1_raise_from hE (k := e) (kcls := .type "KeyError") rfl hKE (ae_exc hE (pe_glob gE) (al_cons (ae_pe (pe_fstr (pj_str (by decide) (pj_int (pe_name rfl) h0 h9 (by decide) (pj_str ?_ (pj_nil ?_))))) (al_nil ⟨by simp, fun ne t0 hne => ?_⟩)))))
      · rw [strLen_append, strLen_append]
        have z := int_text_small h0 h9
        have e1 : (Str.empty ++ Str.ofString "The node ").length = 9 := by decide
        have e2 : (Str.ofString " is not in the graph.").length = 21 := by decide
        omega
      · rw [strLen_append, strLen_append]
        have z := int_text_small h0 h9
        have e1 : (Str.empty ++ Str.ofString "The node ").length = 9 := by decide
        have e2 : (Str.ofString " is not in the graph.").length = 21 := by decide
        omega
      · have hk : ne ≠ e := fun e' => by obtain ⟨_, _, _, _, _, he, _⟩ := x7; rw [← e', hne] at he; cases he
        refine ⟨ne, t0, _, rfl, upd_same, hk, x7.keeps fun b t o hb => upd_of (fun e' => by rw [e', hne] at hb; cases hb) hb, pe_name rfl, fun H8 k8 x8 => ?_⟩
        refine ⟨ne, _, _, rfl, .inl x8, fun m' H9 k9 x9 => leaves_at x9 fun H10 k10 x10 => ⟨hu, ?_, ne, _, rfl, x10⟩⟩
        exact (((((k5.trans k6).trans k7).trans (Keeps.upd fun t o q => by rw [hne] at q; cases q)).trans k8).trans k9).trans k10
end
end Nx
end
section
set_option autoImplicit false
namespace Nx
section
variable {nf : Bool} {c : Cx} {A : Around} {H : AHeap} {gid : Nat} {dir : Bool} {C CN CE : Addr} {loc : Loc} {mm : List (Str × AV)} {g : GC}
abbrev sNbd := dB 15
theorem successors_ok (t : Tag) {f : Addr} {cdv : Value} (hf : FnIs c f "DiGraph.successors" (fpars sNbd) (fbody sNbd) (fscope sNbd) .none .none cdv) (gK : c.mg "KeyError" = none) (bK : c.mb "KeyError" = some (.type "KeyError")) (xK : exmOne c.K (.type "KeyError") (.type "KeyError") = some true)
    (gI : c.mg "iter" = none) (bI : c.mb "iter" = some (.builtin "iter")) (gE : c.mg "NetworkXError" = some (.ref CE)) (hE : ExcC c CE) (hKE : subIn c.K (.type "KeyError") (.type "BaseException") = some true)
    (hdir : dir = true) (k : Kls c dir C CN) (rm : Rm A 1) (hg : GAt gid dir C CN loc mm g H) (hg0 : gid ≠ xo) {n : Int} (h0 : 0 ≤ n) (h9 : n < 10) :
    CallOk nf c A H (.ref f) [.ref (loc (tX gid)), .int n] [] (fun r H' => n ∈ g.keys ∧ ∃ it, r = .ref it ∧ NbrIt H (loc (tAd gid n)) (tAd gid n) t (refs (fun v => loc (tEd gid (ek dir n v))) (g.adj n)) it H')
      (fun e H' => n ∉ g.keys ∧ Keeps H H' ∧ ∃ x cx, e = .ref x ∧ ExcAt H' x (.ref CE) cx .none) := by
  refine call_fn (P := fun ab H' => ab = ([("self", .ref (loc (tX gid))), ("n", .int n)] : List (Str × AV)) ∧ H' = H) hf rfl rm.room ?_ ?_ ?_
  · intro name doc pm an ct W s vs kvs ok h1 h2
    cases h2
    cases h1 with | cons r1 h1 => cases h1 with | cons r2 h1 => cases h1 with | nil =>
    rename_i v1 v2
    refine BindsTo.of_eq (binds := [("self", v1), ("n", v2)]) rfl _ _ _ _ ⟨W, H, _, Post.refl ok, ?_, rfl, rfl⟩
    exact .cons ⟨rfl, r1⟩ (.cons ⟨rfl, r2⟩ .nil)
  · rintro ab H' ⟨rfl, rfl⟩
    rfl
  · rintro L ab H' ⟨rfl, rfl⟩ hL
    have rm' := rm.deeper (envOf "DiGraph.successors" (fscope sNbd) L f cdv)
    by_cases hu : n ∈ g.keys
    · refine as_cons (a1_tryN (as_cons (a1_returnE (ae_callW (pe_blt gI bI) con_is keep_builtin (al_cons (ae_pe (pe_row k ⟨rfl, rfl, rfl, rfl⟩ ⟨rfl, rfl, rfl, rfl⟩ hg.x hg.d (hg.att.s hdir) hg.a hu) (al_nil ?_)))))))
      refine CallW.mono (cw_iter (E' := fun _ _ => False) (iter_dI t (hg.ad hu))) ?_ fun _ _ z => z.elim
      rintro r H1 ⟨it, rfl, hit, ob, rfl⟩
      exact ⟨hu, it, rfl, hit, ob, rfl⟩
    · refine as_cons (a1_try (as_cons (a1_returnE (ae_callW (pe_blt gI bI) con_is keep_builtin (al_cons (ae_sub_miss (pe_own k (pe_name rfl) hg.x hg.d (hg.att.s hdir)) (pe_name rfl) hg.a (by rw [look_refs, if_neg hu]) rm'.h rfl fun e H5 x5 k5 => ⟨e, _, _, rfl, .inl x5, fun H6 k6 x6 => ?_⟩))))))
      refine ah_as (pe_blt gK bK) con_is x6 xK (fun H7 k7 x7 => ?_)
      refine as_cons (a1_raise_from hE (k := e) (kcls := .type "KeyError") rfl hKE (ae_exc hE (pe_glob gE) (al_cons (ae_pe (pe_fstr (pj_str (by decide) (pj_int (pe_name rfl) h0 h9 (by decide) (pj_str ?_ (pj_nil ?_))))) (al_nil ⟨by simp, fun ne t0 hne => ?_⟩)))))
      · rw [strLen_append, strLen_append]
        have z := int_text_small h0 h9
        have e1 : (Str.empty ++ Str.ofString "The node ").length = 9 := by decide
        have e2 : (Str.ofString " is not in the digraph.").length = 23 := by decide
        omega
      · rw [strLen_append, strLen_append]
        have z := int_text_small h0 h9
        have e1 : (Str.empty ++ Str.ofString "The node ").length = 9 := by decide
        have e2 : (Str.ofString " is not in the digraph.").length = 23 := by decide
        omega
      · have hk : ne ≠ e := fun e' => by obtain ⟨_, _, _, _, _, he, _⟩ := x7; rw [← e', hne] at he; cases he
        refine ⟨ne, t0, _, rfl, upd_same, hk, x7.keeps fun b t o hb => upd_of (fun e' => by rw [e', hne] at hb; cases hb) hb, pe_name rfl, fun H8 k8 x8 => ?_⟩
        refine ⟨ne, _, _, rfl, .inl x8, fun m' H9 k9 x9 => leaves_at x9 fun H10 k10 x10 => ⟨hu, ?_, ne, _, rfl, x10⟩⟩
        exact (((((k5.trans k6).trans k7).trans (Keeps.upd fun t o q => by rw [hne] at q; cases q)).trans k8).trans k9).trans k10
end
end Nx
end
section
set_option autoImplicit false
namespace Nx
/-- a cached property: its machinery, all in one -/
structure CacheFn (c : Cx) (C : Addr) (nm : Str) (fF : Addr) : Prop where
  all : ∃ (p fG CP T pd B aNF : Addr) (od oT : Obj) (nT : Nat) (cdv : Value) (tkn : Tok), CacheIs c C nm p fG ∧ FnIs c fG "cached_property.__get__" (fpars sGet) (fbody sGet) (fscope sGet) (.ref T) .none cdv ∧ c.K.lookup T = some oT ∧ oT.data = .seq #[.none] nT ∧
    c.mg "_NOT_FOUND" = some (.ref aNF) ∧ KAt c p CP od ∧ findIn c.K (.ref CP) "__getattribute__" = some (some (.builtin "object.__getattribute__")) ∧ findIn c.K (.ref CP) "__getattr__" = some none ∧
    findObj c.K CP (some od) "attrname" = some (.value (.str nm tkn)) ∧ findIn c.K (.ref CP) "func" = some none ∧ findObj c.K CP (some od) "func" = some (.value (.ref fF)) ∧ KeepOk c (.ref fF) ∧ DictIs c C pd B
section
variable {c : Cx} {A : Around} {env : Env} {m : LM} {H : AHeap} {E : AV → LM → AHeap → Prop}
theorem ae_cache {o : Expr} {nm : Str} {pos : Pos} {x C d fF : Addr} {t t' : Tag} {l : List (Str × AV)} {P : AV → AHeap → Prop} {Q : AV → LM → AHeap → Prop} {j : Nat} (h : CacheFn c C nm fF) (rm : Rm A (j + 2)) (ho : PE c A env m H o (.ref x)) (h1 : H x = some (t, .inst C d)) (h2 : H d = some (t', .nS l)) (hl : look l nm = none) (hz : l.length < 1000)
    (hF : ∀ A', Rm A' j → CallOk false c A' H (.ref fF) [.ref x] [] (fun v H' => H' d = some (t', .nS l) ∧ v.plain = true ∧ P v H') (fun _ _ => False)) (q : ∀ v H0, P v H0 → Q v m (upd H0 d (t', .nS (put l nm v))))
    (he : eval (.Attribute o nm pos) env = (do let ov ← eval o env; standAt pos.atName; let r ← holding [ov] (getAttr ov nm true); letTemporaryGo o ov r; pure r) := by rfl) : AE true c A env m H (.Attribute o nm pos) Q E := by
  obtain ⟨p, fG, CP, T, pd, B, aNF, od, oT, nT, cdv, tkn, hC, hG, hT, hTd, hNF, hK, hga, hgk, hn, hfn, hf, hkF, hD⟩ := h.all
  refine ae_cached hC ho h1 h2 hl (CallOk.mono (cget_ok (P := fun v H' => v.plain = true ∧ P v H') hG hT hTd hNF hK hga hgk hn hfn hf hkF hD h1 h2 hl hz rm.in1 hF) ?_ fun _ _ z => z) he
  rintro v H' ⟨H0, ⟨hp, hP⟩, rfl⟩
  exact ⟨hp, q v H0 hP⟩
end
end Nx
end
section
set_option autoImplicit false
namespace Nx
section
variable {nf : Bool} {c : Cx} {A : Around} {H : AHeap} {gid : Nat} {dir : Bool} {C CN CE : Addr} {loc : Loc} {mm : List (Str × AV)} {g : GC}
abbrev vB (n : Nat) : Stmt := pick (fbody (top 2)) n
abbrev sVI := vB 1
abbrev sND := gB 17
example : fbody (vB 1) = fbody (vB 1) := rfl
theorem view_init {f ps : Addr} {cdv : Value} (hf : FnIs c f "NodeView.__init__" (fpars sVI) (fbody sVI) (fscope sVI) .none .none cdv) (hS : SlotIs c CN "_nodes" ps) (k : Kls c dir C CN) (rm : Rm A 1) (hg : GAt gid dir C CN loc mm g H) {a d : Addr} (ha : H a = some (tV gid, .inst CN d)) (hd : H d = some (tW gid, .nS [])) :
    CallOk nf c A H (.ref f) [.ref a, .ref (loc (tX gid))] [] (fun r H' => r = .none ∧ H' = upd H a (tV gid, .slot1 CN d (.ref (loc (tN gid))))) (fun _ _ => False) := by
  refine call_fn (P := fun ab H' => ab = ([("self", .ref a), ("graph", .ref (loc (tX gid)))] : List (Str × AV)) ∧ H' = H) hf rfl rm.room ?_ ?_ ?_
  · intro name doc pm an ct W s vs kvs ok h1 h2
    cases h2
    cases h1 with | cons r1 h1 => cases h1 with | cons r2 h1 => cases h1 with | nil =>
    rename_i v1 v2
    refine BindsTo.of_eq (binds := [("self", v1), ("graph", v2)]) rfl _ _ _ _ ⟨W, H, _, Post.refl ok, ?_, rfl, rfl⟩
    exact .cons ⟨rfl, r1⟩ (.cons ⟨rfl, r2⟩ .nil)
  · rintro ab H' ⟨rfl, rfl⟩
    rfl
  · rintro L ab H' ⟨rfl, rfl⟩ hL
    exact as_cons (a1_setslot hS (pe_own k (pe_name rfl) hg.x hg.d hg.att.n) (pe_name rfl) ha hd (as_nil ⟨rfl, rfl⟩))
/-- the view of the vertices: its class -/
structure ViewIs (c : Cx) (CN : Addr) : Prop where
  slot : ∃ ps, SlotIs c CN "_nodes" ps
  make : makesIn c.K CN = true
  init : ∃ fI cdv, findIn c.K (.ref CN) "__init__" = some (some (.ref fI)) ∧ typeIn c.K (.ref fI) = some (.type "function") ∧ FnIs c fI "NodeView.__init__" (fpars sVI) (fbody sVI) (fscope sVI) .none .none cdv
  keep : KeepOk c (.ref CN)
theorem nodes_fn {f : Addr} {cdv : Value} (hf : FnIs c f "Graph.nodes" (fpars sND) (fbody sND) (fscope sND) .none .none cdv) (gV : c.mg "NodeView" = some (.ref CN)) (hV : ViewIs c CN) (k : Kls c dir C CN) (rm : Rm A 3) (hg : GAt gid dir C CN loc mm g H) :
    CallOk nf c A H (.ref f) [.ref (loc (tX gid))] [] (fun v H' => H' (loc (tD gid)) = some (tD gid, .nS mm) ∧ v.plain = true ∧ ∃ a d, v = .ref a ∧ H d = none ∧ H a = none ∧ a ≠ d ∧ H' = upd (upd H d (tW gid, .nS [])) a (tV gid, .slot1 CN d (.ref (loc (tN gid))))) (fun _ _ => False) := by
  refine call_fn (P := fun ab H' => ab = ([("self", .ref (loc (tX gid)))] : List (Str × AV)) ∧ H' = H) hf rfl rm.room ?_ ?_ ?_
  · intro name doc pm an ct W s vs kvs ok h1 h2
    cases h2
    cases h1 with | cons r1 h1 => cases h1 with | nil =>
    rename_i v1
    exact BindsTo.of_eq (binds := [("self", v1)]) rfl _ _ _ _ ⟨W, H, _, Post.refl ok, .cons ⟨rfl, r1⟩ .nil, rfl, rfl⟩
  · rintro ab H' ⟨rfl, rfl⟩
    rfl
  · rintro L ab H' ⟨rfl, rfl⟩ hL
    have rm' := rm.deeper (envOf "Graph.nodes" (fscope sND) L f cdv)
    obtain ⟨fI, cdI, hI, hIt, hIf⟩ := hV.init
    obtain ⟨ps, hS⟩ := hV.slot
    refine as_cons (a1_returnE (ae_call (names := []) (pe_glob gV) con_is hV.keep (al_cons (ae_pe (pe_name rfl) (al_nil ⟨[], kw_nil, rfl, ?_⟩)))))
    refine call_class (tW gid) (tV gid) hV.make hI hIt fun A' x dx a1 a2 a3 a4 hx hdx hne => ?_
    have f1 : Frame gid H' (upd (upd H' dx (tW gid, .nS [])) x (tV gid, .inst CN dx)) := (Frame.new hdx).trans (Frame.new ((upd_ne hne).trans hx))
    have hg1 : GAt gid dir C CN loc mm g (upd (upd H' dx (tW gid, .nS [])) x (tV gid, .inst CN dx)) := ⟨fun t o ht => upd_new ((upd_ne hne).trans hx) (upd_new hdx (hg.at_ t o ht)), hg.att, hg.wf, hg.nv_keep f1 (Same.refl _ _)⟩
    refine CallOk.mono (view_init hIf hS k ((rm'.of a3 a4 a2).less (by omega)) hg1 upd_same (upd_of (Ne.symm hne) upd_same)) ?_ fun _ _ z => z.elim
    rintro r H2 ⟨rfl, rfl⟩
    rw [upd_upd]
    exact ⟨rfl, upd_new ((upd_ne hne).trans hx) (upd_new hdx hg.d), rfl, x, dx, rfl, hdx, hx, hne, rfl⟩
/-- graph.nodes -/
theorem ae_nodes {env : Env} {m : LM} {E : AV → LM → AHeap → Prop} {Q : AV → LM → AHeap → Prop} {o : Expr} {pos : Pos} {f : Addr} {cdv : Value} (hf : FnIs c f "Graph.nodes" (fpars sND) (fbody sND) (fscope sND) .none .none cdv) (hC : CacheFn c C "nodes" f) (gV : c.mg "NodeView" = some (.ref CN)) (hV : ViewIs c CN) (k : Kls c dir C CN) (rm : Rm A 5) (hg : GAt gid dir C CN loc mm g H)
    (ho : PE c A env m H o (.ref (loc (tX gid)))) (q : ∀ a d mm' H', GAt gid dir C CN loc mm' g H' → Frame gid H H' → look mm' "nodes" = some (.ref a) → H' a = some (tV gid, .slot1 CN d (.ref (loc (tN gid)))) → H' d = some (tW gid, .nS []) → Q (.ref a) m H')
    (he : eval (.Attribute o "nodes" pos) env = (do let ov ← eval o env; standAt pos.atName; let r ← holding [ov] (getAttr ov "nodes" true); letTemporaryGo o ov r; pure r) := by rfl) : AE true c A env m H (.Attribute o "nodes" pos) Q E := by
  rcases hg.nv with h | ⟨a, d, h1, h2, h3⟩
  · refine ae_cache (j := 3) hC rm ho hg.x hg.d h (by have := hg.att.len; omega) (fun A' rA => nodes_fn hf gV hV k rA hg) ?_ he
    rintro v H0 ⟨a, d, rfl, hd, ha, hne, rfl⟩
    have f1 : Frame gid H (upd (upd H d (tW gid, .nS [])) a (tV gid, .slot1 CN d (.ref (loc (tN gid))))) := (Frame.new hd).trans (Frame.new ((upd_ne hne).trans ha))
    have hg1 : GAt gid dir C CN loc mm g (upd (upd H d (tW gid, .nS [])) a (tV gid, .slot1 CN d (.ref (loc (tN gid))))) := ⟨fun t o ht => upd_new ((upd_ne hne).trans ha) (upd_new hd (hg.at_ t o ht)), hg.att, hg.wf, hg.nv_keep f1 (Same.refl _ _)⟩
    obtain ⟨hg2, f2⟩ := hg1.cacheNodes h (a := a) (d := d) upd_same (upd_of (Ne.symm hne) upd_same)
    refine q a d _ _ hg2 (f1.trans f2) (look_put_same _ _ _) (upd_tag hg1.d upd_same (by simp [vid])) (upd_tag hg1.d (upd_of (Ne.symm hne) upd_same) (by simp [vid]))
  · exact ae_pe (pe_own k ho hg.x hg.d h1 (by decide) rfl he) (q a d mm H hg (Frame.refl _ _) h1 h2 h3)
end
end Nx
end
section
set_option autoImplicit false
namespace Nx
section
variable {nf : Bool} {c : Cx} {A : Around} {H : AHeap} {gid : Nat} {dir : Bool} {C CN CE : Addr} {loc : Loc} {mm : List (Str × AV)} {g : GC}
abbrev sVG := vB 4
abbrev sGG := gB 12
abbrev sGA := gB 8
abbrev sDA := dB 2
theorem view_get {f ps : Addr} {cdv : Value} (hf : FnIs c f "NodeView.__getitem__" (fpars sVG) (fbody sVG) (fscope sVG) .none .none cdv) (hS : SlotIs c CN "_nodes" ps) (rm : Rm A 1) (hg : GAt gid dir C CN loc mm g H) {a d : Addr} (ha : H a = some (tV gid, .slot1 CN d (.ref (loc (tN gid))))) (hd : H d = some (tW gid, .nS [])) {n : Int} (hn : n ∈ g.keys) :
    CallOk nf c A H (.ref f) [.ref a, .int n] [] (fun r H' => r = .ref (loc (tNd gid n)) ∧ H' = H) (fun _ _ => False) := by
  refine call_fn (P := fun ab H' => ab = ([("self", .ref a), ("n", .int n)] : List (Str × AV)) ∧ H' = H) hf rfl rm.room ?_ ?_ ?_
  · intro name doc pm an ct W s vs kvs ok h1 h2
    cases h2
    cases h1 with | cons r1 h1 => cases h1 with | cons r2 h1 => cases h1 with | nil =>
    rename_i v1 v2
    refine BindsTo.of_eq (binds := [("self", v1), ("n", v2)]) rfl _ _ _ _ ⟨W, H, _, Post.refl ok, ?_, rfl, rfl⟩
    exact .cons ⟨rfl, r1⟩ (.cons ⟨rfl, r2⟩ .nil)
  · rintro ab H' ⟨rfl, rfl⟩
    rfl
  · rintro L ab H' ⟨rfl, rfl⟩ hL
    refine as_cons (a1_return (pe_sub_dI (pe_slot (pe_name rfl) ha hd hS) (pe_name rfl) hg.n (by rw [look_refs, if_pos hn])) ⟨rfl, rfl⟩)
/-- the function behind graph.adj -/
theorem adj_u {f : Addr} {cdv : Value} (hf : FnIs c f "Graph.adj" (fpars sGA) (fbody sGA) (fscope sGA) .none .none cdv) (k : Kls c dir C CN) (rm : Rm A 1) (hg : GAt gid dir C CN loc mm g H) : CallOk nf c A H (.ref f) [.ref (loc (tX gid))] [] (fun v H' => v = .ref (loc (tA gid)) ∧ H' = H) (fun _ _ => False) := by
  refine call_fn (P := fun ab H' => ab = ([("self", .ref (loc (tX gid)))] : List (Str × AV)) ∧ H' = H) hf rfl rm.room ?_ ?_ ?_
  · intro name doc pm an ct W s vs kvs ok h1 h2
    cases h2
    cases h1 with | cons r1 h1 => cases h1 with | nil =>
    rename_i v1
    exact BindsTo.of_eq (binds := [("self", v1)]) rfl _ _ _ _ ⟨W, H, _, Post.refl ok, .cons ⟨rfl, r1⟩ .nil, rfl, rfl⟩
  · rintro ab H' ⟨rfl, rfl⟩
    rfl
  · rintro L ab H' ⟨rfl, rfl⟩ hL
    exact as_cons (a1_return (pe_own k (pe_name rfl) hg.x hg.d hg.att.a) ⟨rfl, rfl⟩)
theorem adj_d {f : Addr} {cdv : Value} (hf : FnIs c f "DiGraph.adj" (fpars sDA) (fbody sDA) (fscope sDA) .none .none cdv) (hd : dir = true) (k : Kls c dir C CN) (rm : Rm A 1) (hg : GAt gid dir C CN loc mm g H) : CallOk nf c A H (.ref f) [.ref (loc (tX gid))] [] (fun v H' => v = .ref (loc (tA gid)) ∧ H' = H) (fun _ _ => False) := by
  refine call_fn (P := fun ab H' => ab = ([("self", .ref (loc (tX gid)))] : List (Str × AV)) ∧ H' = H) hf rfl rm.room ?_ ?_ ?_
  · intro name doc pm an ct W s vs kvs ok h1 h2
    cases h2
    cases h1 with | cons r1 h1 => cases h1 with | nil =>
    rename_i v1
    exact BindsTo.of_eq (binds := [("self", v1)]) rfl _ _ _ _ ⟨W, H, _, Post.refl ok, .cons ⟨rfl, r1⟩ .nil, rfl, rfl⟩
  · rintro ab H' ⟨rfl, rfl⟩
    rfl
  · rintro L ab H' ⟨rfl, rfl⟩ hL
    exact as_cons (a1_return (pe_own k (pe_name rfl) hg.x hg.d (hg.att.s hd)) ⟨rfl, rfl⟩)
/-- graph[n] -/
theorem getitem_ok {f fA : Addr} {cdv : Value} (hf : FnIs c f "Graph.__getitem__" (fpars sGG) (fbody sGG) (fscope sGG) .none .none cdv) (hC : CacheFn c C "adj" fA) (hA : ∀ A', Rm A' 1 → CallOk false c A' H (.ref fA) [.ref (loc (tX gid))] [] (fun v H' => v = .ref (loc (tA gid)) ∧ H' = H) (fun _ _ => False))
    (k : Kls c dir C CN) (rm : Rm A 4) (hg : GAt gid dir C CN loc mm g H) {n : Int} (hn : n ∈ g.keys) :
    CallOk true c A H (.ref f) [.ref (loc (tX gid)), .int n] [] (fun r H' => r = .ref (loc (tAd gid n)) ∧ ∃ mm', GAt gid dir C CN loc mm' g H' ∧ Frame gid H H') (fun _ _ => False) := by
  refine call_fn (P := fun ab H' => ab = ([("self", .ref (loc (tX gid))), ("n", .int n)] : List (Str × AV)) ∧ H' = H) hf rfl rm.room ?_ ?_ ?_
  · intro name doc pm an ct W s vs kvs ok h1 h2
    cases h2
    cases h1 with | cons r1 h1 => cases h1 with | cons r2 h1 => cases h1 with | nil =>
    rename_i v1 v2
    refine BindsTo.of_eq (binds := [("self", v1), ("n", v2)]) rfl _ _ _ _ ⟨W, H, _, Post.refl ok, ?_, rfl, rfl⟩
    exact .cons ⟨rfl, r1⟩ (.cons ⟨rfl, r2⟩ .nil)
  · rintro ab H' ⟨rfl, rfl⟩
    rfl
  · rintro L ab H' ⟨rfl, rfl⟩ hL
    have rm' := rm.deeper (envOf "Graph.__getitem__" (fscope sGG) L f cdv)
    rcases hg.att.j with h | h
    · refine as_cons (a1_returnE (ae_sub_dI (ae_cache (j := 1) (P := fun v H0 => v = .ref (loc (tA gid)) ∧ H0 = H') hC (rm'.less (by omega)) (pe_name rfl) hg.x hg.d h (by have := hg.att.len; omega) (fun A' rA => CallOk.mono (hA A' rA) (fun v H0 ⟨e1, e2⟩ => by subst e1 e2; exact ⟨hg.d, rfl, rfl, rfl⟩) fun _ _ z => z) ?_)))
      rintro v H0 ⟨rfl, rfl⟩
      obtain ⟨hg2, f2⟩ := hg.cacheAdj h
      exact ⟨_, _, _, n, _, rfl, pe_name rfl, hg2.a, by rw [look_refs, if_pos hn], rfl, _, hg2, f2⟩
    · refine as_cons (a1_return (pe_sub_dI (pe_own k (pe_name rfl) hg.x hg.d h) (pe_name rfl) hg.a (by rw [look_refs, if_pos hn])) ⟨rfl, mm, hg, Frame.refl _ _⟩)
end
end Nx
end
section
set_option autoImplicit false
namespace Nx
/-- a class whose calls give empty graphs -/
def MakesG (c : Cx) (dir : Bool) (C CN : Addr) : Prop := KeepOk c (.ref C) ∧ ∀ (nf : Bool) (A : Around) (H : AHeap) (gid : Nat), Rm A 3 → CallOk nf c A H (.ref C) [] [] (fun v H' => ∃ (loc : Loc) (mm : List (Str × AV)), v = .ref (loc (tX gid)) ∧ look mm "nodes" = none ∧ look mm "adj" = none ∧ GAt gid dir C CN loc mm GC.empty H' ∧ Frame gid H H') (fun _ _ => False)
section
variable {nf : Bool} {c : Cx} {A : Around} {H : AHeap} {gid : Nat} {dir : Bool} {C CN CE : Addr} {loc : Loc} {mm : List (Str × AV)} {g : GC}
theorem makes_u {fI T : Addr} {oT : Obj} {nT : Nat} {cdv : Value} (hk : KeepOk c (.ref C)) (hm : makesIn c.K C = true) (hi : findIn c.K (.ref C) "__init__" = some (some (.ref fI))) (hft : typeIn c.K (.ref fI) = some (.type "function"))
    (hf : FnIs c fI "Graph.__init__" (fpars sGI) (fbody sGI) (fscope sGI) (.ref T) .none cdv) (hT : c.K.lookup T = some oT) (hTd : oT.data = .seq #[.none] nT) (k : Kls c false C CN) : MakesG c false C CN := ⟨hk, fun nf A H gid rm => by
  refine call_class (tD gid) (tX gid) hm hi hft fun A' x dx a1 a2 a3 a4 hx hdx hne => ?_
  refine CallOk.mono (init_u hf hT hTd k (rm.of a3 a4 a2) hx hdx hne) ?_ fun _ _ z => z.elim
  rintro r H' ⟨rfl, loc, mm, rfl, h1, h2, h3, h4⟩
  exact ⟨rfl, loc, mm, rfl, h1, h2, h3, h4⟩⟩
theorem makes_d {fI T : Addr} {oT : Obj} {nT : Nat} {cdv : Value} (hk : KeepOk c (.ref C)) (hm : makesIn c.K C = true) (hi : findIn c.K (.ref C) "__init__" = some (some (.ref fI))) (hft : typeIn c.K (.ref fI) = some (.type "function"))
    (hf : FnIs c fI "DiGraph.__init__" (fpars sGId) (fbody sGId) (fscope sGId) (.ref T) .none cdv) (hT : c.K.lookup T = some oT) (hTd : oT.data = .seq #[.none] nT) (k : Kls c true C CN) : MakesG c true C CN := ⟨hk, fun nf A H gid rm => by
  refine call_class (tD gid) (tX gid) hm hi hft fun A' x dx a1 a2 a3 a4 hx hdx hne => ?_
  refine CallOk.mono (init_d hf hT hTd k (rm.of a3 a4 a2) hx hdx hne) ?_ fun _ _ z => z.elim
  rintro r H' ⟨rfl, loc, mm, rfl, h1, h2, h3, h4⟩
  exact ⟨rfl, loc, mm, rfl, h1, h2, h3, h4⟩⟩
abbrev sFr := gB 6
abbrev sFrd := dB 0
theorem fresh_u {f : Addr} {cdv : Value} (hf : FnIs c f "Graph.fresh" (fpars sFr) (fbody sFr) (fscope sFr) .none .none cdv) (gC : c.mg "Graph" = some (.ref C)) (hM : MakesG c dir C CN) (rm : Rm A 4) {x : AV} :
    CallOk nf c A H (.ref f) [x] [] (fun v H' => ∃ (loc : Loc) (mm : List (Str × AV)), v = .ref (loc (tX gid)) ∧ look mm "nodes" = none ∧ look mm "adj" = none ∧ GAt gid dir C CN loc mm GC.empty H' ∧ Frame gid H H') (fun _ _ => False) := by
  refine call_fn (P := fun ab H' => ab = ([("self", x)] : List (Str × AV)) ∧ H' = H) hf rfl rm.room ?_ ?_ ?_
  · intro name doc pm an ct W s vs kvs ok h1 h2
    cases h2
    cases h1 with | cons r1 h1 => cases h1 with | nil =>
    rename_i v1
    exact BindsTo.of_eq (binds := [("self", v1)]) rfl _ _ _ _ ⟨W, H, _, Post.refl ok, .cons ⟨rfl, r1⟩ .nil, rfl, rfl⟩
  · rintro ab H' ⟨rfl, rfl⟩
    rfl
  · rintro L ab H' ⟨rfl, rfl⟩ hL
    refine as_cons (a1_returnE (ae_call (names := []) (pe_glob gC) con_is hM.1 (al_nil ⟨[], kw_nil, rfl, ?_⟩)))
    exact CallOk.mono (hM.2 nf _ H' gid (rm.deeper _)) (fun _ _ z => z) fun _ _ z => z.elim
theorem fresh_d {f : Addr} {cdv : Value} (hf : FnIs c f "DiGraph.fresh" (fpars sFrd) (fbody sFrd) (fscope sFrd) .none .none cdv) (gC : c.mg "DiGraph" = some (.ref C)) (hM : MakesG c dir C CN) (rm : Rm A 4) {x : AV} :
    CallOk nf c A H (.ref f) [x] [] (fun v H' => ∃ (loc : Loc) (mm : List (Str × AV)), v = .ref (loc (tX gid)) ∧ look mm "nodes" = none ∧ look mm "adj" = none ∧ GAt gid dir C CN loc mm GC.empty H' ∧ Frame gid H H') (fun _ _ => False) := by
  refine call_fn (P := fun ab H' => ab = ([("self", x)] : List (Str × AV)) ∧ H' = H) hf rfl rm.room ?_ ?_ ?_
  · intro name doc pm an ct W s vs kvs ok h1 h2
    cases h2
    cases h1 with | cons r1 h1 => cases h1 with | nil =>
    rename_i v1
    exact BindsTo.of_eq (binds := [("self", v1)]) rfl _ _ _ _ ⟨W, H, _, Post.refl ok, .cons ⟨rfl, r1⟩ .nil, rfl, rfl⟩
  · rintro ab H' ⟨rfl, rfl⟩
    rfl
  · rintro L ab H' ⟨rfl, rfl⟩ hL
    refine as_cons (a1_returnE (ae_call (names := []) (pe_glob gC) con_is hM.1 (al_nil ⟨[], kw_nil, rfl, ?_⟩)))
    exact CallOk.mono (hM.2 nf _ H' gid (rm.deeper _)) (fun _ _ z => z) fun _ _ z => z.elim
end
end Nx
end
section
set_option autoImplicit false
namespace Nx
/-- only new things came -/
def Grows (H H' : AHeap) : Prop := ∀ b x, H b = some x → H' b = some x
theorem Grows.refl (H : AHeap) : Grows H H := fun _ _ h => h
theorem Grows.trans {H H' H'' : AHeap} (x : Grows H H') (y : Grows H' H'') : Grows H H'' := fun b o h => y b o (x b o h)
theorem Grows.new {H : AHeap} {a : Addr} {x : Tag × AObj} (h : H a = none) : Grows H (upd H a x) := fun b o hb => upd_new h hb
theorem Grows.upd {H H' : AHeap} {a : Addr} {x : Tag × AObj} (h : Grows H H') (ha : H a = none) : Grows H (Nx.upd H' a x) := fun b o hb => upd_of (fun e => by rw [e, ha] at hb; cases hb) (h b o hb)
theorem Grows.drop {H H' : AHeap} {a : Addr} (h : Grows H H') (ha : H a = none) : Grows H (Nx.drop H' a) := fun b o hb => drop_of (fun e => by rw [e, ha] at hb; cases hb) (h b o hb)
local macro_rules | `(tactic| walk_at "pe") => `(tactic| first
  | exact pe_int | exact pe_str | exact pe_none | exact pe_bool
  | exact pe_name rfl
  | exact pe_name (by assumption)
  | (refine' pe_add ?l ?r; (case l => walk_at "pe"); (case r => walk_at "pe"))
  | (refine' pe_mul ?l ?r ?z; (case l => walk_at "pe"); (case r => walk_at "pe"); (case z => decide))
  | (refine' pe_mod ?l ?r ?z; (case l => walk_at "pe"); (case r => walk_at "pe"); (case z => first | assumption | decide | omega)))
section
variable {nf : Bool} {c : Cx} {A : Around} {H : AHeap}
abbrev sSd := top 16
theorem seed_ok (t : Tag) {f : Addr} {cdv : Value} (hf : FnIs c f "_law_seed" (fpars sSd) (fbody sSd) (fscope sSd) .none .none cdv) (gA : c.mg "abs" = none) (bA : c.mb "abs" = some (.builtin "abs")) (rm : Rm A 1) {l : Addr} {t' : Tag} {ns : List Int} (hl : H l = some (t', .list (ns.map AV.int))) :
    CallOk nf c A H (.ref f) [.ref l] [] (fun r H' => ∃ a x, r = .ref a ∧ 0 ≤ x ∧ H a = none ∧ H' a = some (t, .list [.int x]) ∧ Grows H H') (fun _ _ => False) := by
  refine call_fn (P := fun ab H' => ab = ([("script", .ref l)] : List (Str × AV)) ∧ H' = H) hf rfl rm.room ?_ ?_ ?_
  · intro name doc pm an ct W s vs kvs ok h1 h2
    cases h2
    cases h1 with | cons r1 h1 => cases h1 with | nil =>
    rename_i v1
    exact BindsTo.of_eq (binds := [("script", v1)]) rfl _ _ _ _ ⟨W, H, _, Post.refl ok, .cons ⟨rfl, r1⟩ .nil, rfl, rfl⟩
  · rintro ab H' ⟨rfl, rfl⟩
    rfl
  · rintro L ab H' ⟨rfl, rfl⟩ hL
    have rm' := rm.deeper (envOf "_law_seed" (fscope sSd) L f cdv)
    refine as_cons (a1_assign (v := .int 17) (by walk_at "pe") ?_)
    refine as_cons (a1_forK (ae_slice default (pe_name rfl) pe_int hl (by decide) fun d hd => ?_))
    intro W s u ok r
    refine wpN_mono (iter_list default (upd_same) W s u ok r) ?_ fun _ _ z => z.elim
    rintro o s' ⟨W', H2, it, rfl, p, hit, rfl⟩
    have hlen : ((ns.take (24 : Int).toNat).map AV.int).length ≤ 24 := by rw [List.length_map, List.length_take]; exact Nat.min_le_left _ _
    have hitd : it ≠ d := fun e => by rw [e, upd_same] at hit; cases hit
    have hit0 : H' it = none := by rw [upd_ne hitd] at hit; exact hit
    refine ⟨W', _, it, rfl, p, fun n m' H2 => ∃ i x, n + i = ((ns.take (24 : Int).toNat).map AV.int).length ∧ 0 ≤ x ∧ m' "seed" = some (.int x) ∧ H2 it = some (default, listIt d i) ∧ H2 d = some (default, .list ((ns.take (24 : Int).toNat).map AV.int)) ∧ Grows H' H2, ⟨_, 0, 17, rfl, by decide, rfl, upd_same, upd_of (Ne.symm hitd) upd_same, ((Grows.refl _).upd hd).upd hit0⟩, ?_⟩
    rintro n m1 H3 ⟨i, x, hn, hx, hm, h1, h2, hG⟩
    rcases Nat.lt_or_ge i ((ns.take (24 : Int).toNat).map AV.int).length with hi | hi
    · obtain ⟨k, hk⟩ : ∃ k, ((ns.take (24 : Int).toNat).map AV.int)[i]? = some (.int k) := by
        rw [List.length_map] at hi
        exact ⟨(ns.take (24 : Int).toNat)[i], by rw [List.getElem?_map, List.getElem?_eq_getElem hi]; rfl⟩
      refine (next_list_item h1 h2 hk).ok (asg_name ?_)
      refine as_cons (a1_assign (pe_mod (pe_add (pe_add (pe_mul (pe_name (by exact hm)) pe_int (by decide)) (pe_mod (pe_call (pe_blt gA bA) con_is keep_builtin (pl_cons (pe_name rfl) pl_nil) cp_abs) pe_int (by decide))) pe_int) pe_int (by decide)) (as_nil ?_))
      refine ⟨n - 1, by omega, i + 1, _, by omega, ?_, rfl, upd_same, upd_of (Ne.symm hitd) h2, hG.upd hit0⟩
      exact Int.fmod_nonneg_of_pos _ (by decide)
    · have hi : i = ((ns.take (24 : Int).toNat).map AV.int).length := by omega
      refine (next_list_end rm'.h h1 h2 (by rw [hi]; simp)).ok ?_
      refine as_cons (a1_returnE (ae_list t (al_cons (ae_pe (pe_name hm) (al_nil ⟨by simp, fun a ha => ?_⟩)))))
      have haN : H' a = none := by
        cases q : H' a with
        | none => rfl
        | some y => have := (hG.drop hit0) a y q; rw [ha] at this; cases this
      exact ⟨a, x, rfl, hx, haN, upd_same, (hG.drop hit0).upd haN⟩
end
end Nx
end
section
set_option autoImplicit false
namespace Nx
section
variable {nf : Bool} {c : Cx} {A : Around} {H : AHeap} {W : WM} {s : Shared}
theorem cp_len_dI {d : Addr} {t : Tag} {l : List (Int × AV)} (hd : H d = some (t, .dI l)) : CallP c A H (.builtin "len") [.ref d] (.int l.length) := fun W s vs ok hv => by
  cases hv with | cons r1 hv => cases hv with | nil =>
  obtain rfl : _ = Value.ref d := r1
  obtain ⟨kvs, D, kv, z⟩ := ok.dI hd
  have hl := kv.length
  refine call_len_dict (c.noMods (ok.own _ _ _ hd).1) D (by omega) (fin (Post.refl ok) ?_)
  rw [hl]
  exact VR.int'
end
end Nx
end
section
set_option autoImplicit false
namespace Nx
section
variable {nf : Bool} {c : Cx} {A : Around} {H : AHeap} {gid : Nat} {dir : Bool} {C CN CE : Addr} {loc : Loc} {mm : List (Str × AV)} {g : GC}
abbrev sVL := vB 2
abbrev sVIt := vB 3
theorem view_len {f ps : Addr} {cdv : Value} (hf : FnIs c f "NodeView.__len__" (fpars sVL) (fbody sVL) (fscope sVL) .none .none cdv) (hS : SlotIs c CN "_nodes" ps) (gL : c.mg "len" = none) (bL : c.mb "len" = some (.builtin "len")) (rm : Rm A 1) (hg : GAt gid dir C CN loc mm g H) {a d : Addr} (ha : H a = some (tV gid, .slot1 CN d (.ref (loc (tN gid))))) (hd : H d = some (tW gid, .nS [])) :
    CallOk nf c A H (.ref f) [.ref a] [] (fun r H' => r = .int g.keys.length ∧ H' = H) (fun _ _ => False) := by
  refine call_fn (P := fun ab H' => ab = ([("self", .ref a)] : List (Str × AV)) ∧ H' = H) hf rfl rm.room ?_ ?_ ?_
  · intro name doc pm an ct W s vs kvs ok h1 h2
    cases h2
    cases h1 with | cons r1 h1 => cases h1 with | nil =>
    rename_i v1
    exact BindsTo.of_eq (binds := [("self", v1)]) rfl _ _ _ _ ⟨W, H, _, Post.refl ok, .cons ⟨rfl, r1⟩ .nil, rfl, rfl⟩
  · rintro ab H' ⟨rfl, rfl⟩
    rfl
  · rintro L ab H' ⟨rfl, rfl⟩ hL
    refine as_cons (a1_return (pe_call (pe_blt gL bL) con_is keep_builtin (pl_cons (pe_slot (pe_name rfl) ha hd hS) pl_nil) (cp_len_dI hg.n)) ⟨?_, rfl⟩)
    rw [refs_length]
theorem view_iter (t : Tag) {f ps : Addr} {cdv : Value} (hf : FnIs c f "NodeView.__iter__" (fpars sVIt) (fbody sVIt) (fscope sVIt) .none .none cdv) (hS : SlotIs c CN "_nodes" ps) (gI : c.mg "iter" = none) (bI : c.mb "iter" = some (.builtin "iter")) (rm : Rm A 1) (hg : GAt gid dir C CN loc mm g H) {a d : Addr} (ha : H a = some (tV gid, .slot1 CN d (.ref (loc (tN gid))))) (hd : H d = some (tW gid, .nS [])) :
    CallOk nf c A H (.ref f) [.ref a] [] (fun r H' => ∃ it, r = .ref it ∧ NbrIt H (loc (tN gid)) (tN gid) t (refs (fun n => loc (tNd gid n)) g.keys) it H') (fun _ _ => False) := by
  refine call_fn (P := fun ab H' => ab = ([("self", .ref a)] : List (Str × AV)) ∧ H' = H) hf rfl rm.room ?_ ?_ ?_
  · intro name doc pm an ct W s vs kvs ok h1 h2
    cases h2
    cases h1 with | cons r1 h1 => cases h1 with | nil =>
    rename_i v1
    exact BindsTo.of_eq (binds := [("self", v1)]) rfl _ _ _ _ ⟨W, H, _, Post.refl ok, .cons ⟨rfl, r1⟩ .nil, rfl, rfl⟩
  · rintro ab H' ⟨rfl, rfl⟩
    rfl
  · rintro L ab H' ⟨rfl, rfl⟩ hL
    refine as_cons (a1_returnE (ae_callW (pe_blt gI bI) con_is keep_builtin (al_cons (ae_pe (pe_slot (pe_name rfl) ha hd hS) (al_nil ?_)))))
    refine CallW.mono (cw_iter (E' := fun _ _ => False) (iter_dI t hg.n)) ?_ fun _ _ z => z.elim
    rintro r H1 ⟨it, rfl, hit, ob, rfl⟩
    exact ⟨it, rfl, hit, ob, rfl⟩
end
end Nx
end
section
set_option autoImplicit false
namespace Nx
theorem look_of_mem {κ : Type} [DecidableEq κ] {α : Type} {l : List (κ × α)} {k : κ} {a : α} (hn : (l.map (·.1)).Nodup) (h : (k, a) ∈ l) : look l k = some a := by
  induction l with
  | nil => cases h
  | cons p r ih =>
    obtain ⟨h1, h2⟩ := List.nodup_cons.mp hn
    unfold look
    rcases List.mem_cons.mp h with e | e
    · rw [← e, if_pos rfl]
    · rw [if_neg (fun (q : p.1 = k) => h1 (by show p.1 ∈ _; rw [q]; exact List.mem_map_of_mem e))]
      exact ih h2 e
section
variable {nf : Bool} {c : Cx} {A : Around} {H : AHeap} {W : WM} {s : Shared}
theorem hits_same {kb : List (Str × Value)} {l : List (Str × Int)} (hb : KV W kb (nums l)) (hn : (l.map (·.1)).Nodup) : ∀ (l' : List (Str × Int)) (ka : List (Str × Value)), KV W ka (nums l') → (∀ p ∈ l', p ∈ l) → KeqHits A s kb ka true
  | [], _, h, _ => by cases h; exact .nil
  | p :: r, _, h, hm => by
    cases h with | cons r1 h =>
    rename_i q qs
    obtain ⟨q1, q2⟩ := q
    obtain ⟨e1, t, e2⟩ := r1
    dsimp only at e1 e2
    subst e1 e2
    have z := hb.look p.1
    rw [look_nums, look_of_mem hn (hm p (.head _))] at z
    obtain ⟨y, hy, t', rfl⟩ := z.some
    have := KeqHits.hit (A := A) (s := s) (kb := kb) (k := p.1) (v := .int p.2 t) hy (SeqAt.EqAt.int_int p.2 t p.2 t') (hits_same hb hn r qs h fun x hx => hm x (.tail _ hx))
    simpa using this
theorem ne_core {a b : Addr} {ka kb : List (Str × Value)} {l : List (Str × Int)} (ok : Ok c W s H) (hn : (l.map (·.1)).Nodup) (hu : A.units + 1 < cLine) (ha : c.base.objs.size ≤ a) (hb : c.base.objs.size ≤ b) (da : s.heap.DictOf (strKind c.prog c.w) a ka) (db : s.heap.DictOf (strKind c.prog c.w) b kb) (va : KV W ka (nums l)) (vb : KV W kb (nums l)) :
    wpAny c.M A (compareOp .NotEq (.ref a) (.ref b)) (fun y s' => ∃ W', Post c W s H W' s' H ∧ VR W' y (.bool false)) (fun _ _ => False) s := by
  refine keq_ne (r := true) (c.noMods ha) (c.noMods hb) da db (by omega) (fun _ => hits_same vb hn l ka va fun _ h => h) ⟨W, Post.refl ok, ?_⟩
  have e : (ka.length == kb.length) = true := by
    have h1 := va.length; have h2 := vb.length; rw [h1, h2]; simp
  rw [e]
  exact VR.bool'
theorem cmp_ne_dS {a b : Addr} {t t' : Tag} {l : List (Str × Int)} (hn : (l.map (·.1)).Nodup) (hu : A.units + 1 < cLine) (ha : H a = some (t, .dS (nums l))) (hb : H b = some (t', .dS (nums l))) : CmpIs c A H .NotEq (.ref a) (.ref b) false := fun W s u x ok r1 r2 => by
  obtain rfl : u = .ref a := r1
  obtain rfl : x = .ref b := r2
  obtain ⟨ka, da, va, _⟩ := ok.dS ha
  obtain ⟨kb, db, vb, _⟩ := ok.dS hb
  exact ne_core ok hn hu (ok.own _ _ _ ha).1 (ok.own _ _ _ hb).1 da db va vb
theorem cmp_ne_fd {a : Addr} {t : Tag} {l : List (Str × Int)} (hn : (l.map (·.1)).Nodup) (hu : A.units + 1 < cLine) (ha : H a = some (t, .dS (nums l))) : CmpIs c A H .NotEq (.ref a) (.fd l) false := fun W s u x ok r1 r2 => by
  obtain rfl : u = .ref a := r1
  obtain ⟨b, rfl, hb⟩ := r2
  obtain ⟨ka, da, va, _⟩ := ok.dS ha
  obtain ⟨hbb, _, ob, g, kb, db, vb, _⟩ := ok.frz _ _ hb
  exact ne_core ok hn hu (ok.own _ _ _ ha).1 hbb da (Heap.dictOf_iff.mpr ⟨ob, g, db⟩) va vb
end
end Nx
end
section
set_option autoImplicit false
namespace Nx
def intIs (b : Int) : Value → Bool
  | .int i _ => i == b
  | _ => false
theorem any_ints {b : Int} : ∀ {vs : List Value} {ns : List Int}, IntsAre vs ns → vs.any (intIs b) = decide (b ∈ ns)
  | _, _, .nil => rfl
  | _, _, .cons n t h => by
    rw [List.any_cons, any_ints h]
    show ((n == b) || _) = _
    by_cases e : n = b
    · subst e; simp
    · have e' : ¬ b = n := fun q => e q.symm
      simp [e, e']
section
variable {nf : Bool} {c : Cx} {A : Around} {H : AHeap} {W : WM} {s : Shared}
theorem cmp_in_list {l : Addr} {t : Tag} {ns : List Int} {b : Int} (hl : H l = some (t, .list (ns.map AV.int))) : CmpIs c A H .In (.int b) (.ref l) (decide (b ∈ ns)) := fun W s u x ok r1 r2 => by
  obtain ⟨tk, rfl⟩ := r1
  obtain rfl : x = .ref l := r2
  obtain ⟨vs, D, r, z⟩ := ok.isList hl
  have hI := ints_from r
  refine SeqAt.in_listAt (intIs b) D (fun y hy => ?_) ⟨W, Post.refl ok, ?_⟩
  · obtain ⟨i, t', rfl⟩ := hI.all y (by simpa using hy)
    exact SeqAt.EqAt.int_int i t' b tk
  · rw [← any_ints (b := b) hI]
    rw [show vs.toArray.any (intIs b) = vs.any (intIs b) by simp]
    exact VR.bool'
end
end Nx
end
section
set_option autoImplicit false
namespace Nx
section
variable {nf : Bool} {c : Cx} {A : Around} {H : AHeap} {W : WM} {s : Shared}
theorem cmp_ne_list {a b : Addr} {t t' : Tag} {ns ms : List Int} (hu : A.units + 64 < cLine) (ha : H a = some (t, .list (ns.map AV.int))) (hb : H b = some (t', .list (ms.map AV.int))) : CmpIs c A H .NotEq (.ref a) (.ref b) (!decide (ns = ms)) := fun W s u x ok r1 r2 => by
  obtain rfl : u = .ref a := r1
  obtain rfl : x = .ref b := r2
  obtain ⟨vs, D, r, z⟩ := ok.isList ha
  obtain ⟨us, D', r', z'⟩ := ok.isList hb
  exact ke_ne_ints D D' (ints_from r) (ints_from r') hu ⟨W, Post.refl ok, VR.bool'⟩
theorem cmp_ne_bool (hu : A.units + 64 < cLine) {a b : Bool} : CmpIs c A H .NotEq (.bool a) (.bool b) (a != b) := fun W s u x ok r1 r2 => by
  obtain rfl : u = .bool a := r1
  obtain rfl : x = .bool b := r2
  refine ne_dataH_same (Reads.bool a) (Reads.bool b) (by cases a <;> rfl) (by cases b <;> rfl) hu (SeqAt.noMix_of_shape .bool rfl _ _ rfl rfl) ?_
  refine ⟨W, Post.refl ok, ?_⟩
  cases a <;> cases b <;> exact VR.bool'
end
end Nx
end
section
set_option autoImplicit false
namespace Nx
/-- a class none of whose instances is of the other -/
structure NotIs (c : Cx) (C D : Addr) : Prop where
  no : kin_not c.K C D = true
  get : plainGet c.K C "__class__" = true
  dict : hasDictIn c.K C = true
  find : findIn c.K (.ref C) "__class__" = some (some (.builtin "object.__class__"))
  sp : specialIn c.K (.builtin "object.__class__") "__get__" = some (some (.builtin "getset_descriptor.__get__"))
  takes : takesIn c.K (.builtin "object.__class__") = some true
  mro : mroIn c.K C (.type "object") = some true
section
variable {nf : Bool} {c : Cx} {A : Around} {H : AHeap} {W : WM} {s : Shared}
theorem cp_isi_yes {x C d : Addr} {t t' : Tag} {mm : List (Str × AV)} (h1 : H x = some (t, .inst C d)) (h2 : H d = some (t', .nS mm)) : CallP c A H (.builtin "isinstance") [.ref x, .ref C] (.bool true) := fun W s vs ok hv => by
  cases hv with | cons r1 hv => cases hv with | cons r2 hv => cases hv with | nil =>
  obtain rfl : _ = Value.ref x := r1
  obtain rfl : _ = Value.ref C := r2
  obtain ⟨od, I, g, L⟩ := ok.inst h1 h2
  have L0 := I.type (M := c.M)
  refine call_isinstance_of ?_ (fun e => nomatch e)
  unfold Builtin.«isinstance.nested»
  refine wpAny_bind (m := typeOf (.ref x)) (L0.here ?_)
  show wpAny _ _ (if (Value.ref C == Value.ref C) = true then _ else _) _ _ s
  rw [if_pos (by simp)]
  repeat (first | refine wpAny_pure ?_ | refine wpAny_rule ?_ | refine wpAny_bind ?_)
  exact ⟨W, Post.refl ok, VR.bool'⟩
theorem cp_isi_no {x C D d : Addr} {t t' : Tag} {mm : List (Str × AV)} (hN : NotIs c C D) (h1 : H x = some (t, .inst C d)) (h2 : H d = some (t', .nS mm)) : CallP c A H (.builtin "isinstance") [.ref x, .ref D] (.bool false) := fun W s vs ok hv => by
  cases hv with | cons r1 hv => cases hv with | cons r2 hv => cases hv with | nil =>
  obtain rfl : _ = Value.ref x := r1
  obtain rfl : _ = Value.ref D := r2
  obtain ⟨od, I, g, L⟩ := ok.inst h1 h2
  exact kin_callC ok.kin I hN.no hN.get hN.dict hN.find hN.sp hN.takes hN.mro (fin (Post.refl ok) VR.bool')
end
end Nx
end
section
set_option autoImplicit false
namespace Nx
section
variable {nf : Bool} {c : Cx} {A : Around} {env : Env} {m : LM} {H : AHeap} {E : AV → LM → AHeap → Prop} {W : WM} {s : Shared}
/-- a subscript whose index has effect -/
theorem ae_sub2 {value slice : Expr} {pos : Pos} {a : AV} {Q : AV → LM → AHeap → Prop} (hv : PE c A env m H value a) (hi : AE nf c A env m H slice (fun i m' H' =>
      ∀ W s u x, Ok c W s H' → Fo c W s H' env A m' → VR W u a → VR W x i → G nf c A env VR Q E W s H' (subscriptTail value slice u x)) E) : AE nf c A env m H (.Subscript value slice pos) Q E := .mk fun W s ok fo => by
  show wpN _ _ _ (eval (.Subscript value slice pos) env) _ _ _
  rw [eval_Subscript]
  refine wpN_then (hv.run ok fo fun W1 s1 u p1 f1 r1 => ?_)
  refine wpN_bind (wpN_holding (AG.both hi.ag p1.ok f1 (fun W2 s2 m2 H2 x i p2 f2 r2 h => ?_) fun W2 s2 m2 H2 y z p2 f2 r2 q2 => ⟨W2, H2, m2, z, (p1.x _).trans p2, f2, r2, q2⟩))
  exact wpN_bind (wpN_standAt (G.from ((p1.x _).trans p2) (h W2 s2 u x p2.ok f2 (r1.mono p2.ext) r2)))
def wx (i : Int) : Str := if i = 0 then "w" else "x"
/-- a letter of «wx» -/
theorem tail_wx {value slice : Expr} {i : Int} {Q : AV → LM → AHeap → Prop} {u v : Value} (ok : Ok c W s H) (fo : Fo c W s H env A m) (r1 : VR W u (.str "wx")) (r2 : VR W v (.int i)) (hi : i = 0 ∨ i = 1) (q : Q (.str (wx i)) m H) (hp : plainIdx slice = true := by rfl) : G nf c A env VR Q E W s H (subscriptTail value slice u v) := by
  obtain ⟨t1, rfl⟩ := r1
  obtain ⟨t2, rfl⟩ := r2
  refine wpN_of (tail_type (typeIs_str s _ t1) F.slot_str_getitem ?_ (subscripted_plain hp _ _))
  rcases hi with rfl | rfl
  · exact P.getItem_str (c := 119) (by decide) (by decide) (stay ok fo (show VR W _ (.str (wx 0)) from ⟨s.toks, rfl⟩) q)
  · exact P.getItem_str (c := 120) (by decide) (by decide) (stay ok fo (show VR W _ (.str (wx 1)) from ⟨s.toks, rfl⟩) q)
end
end Nx
end
section
set_option autoImplicit false
namespace Nx
section
variable {prog : Program} {w : World} {A : Around} {E : Value → Shared → Prop} {s : Shared} {K : Type} [DecidableEq K] {knd : KeyKind prog w K} {d : Addr} {kvs : List (K × Value)} {ep : Nat}
theorem touch_at {a : Addr} {n : Nat} {Q : Unit → Shared → Prop} (ho : s.heap.get? a = some (seqObj "list" #[] n))
    (h : ∀ h' n', Heap.SameBut a s.heap h' → h'.get? a = some (seqObj "list" #[] n') → Q () { s with heap := h' }) : wpAny (model prog w) A (Builtin.List.listTouch (.ref a)) Q E s := by
  unfold Builtin.List.listTouch
  have ho1 := get?_update_seq ho (·.push Value.none)
  refine wpAny_bind (listUpdate_at ho rfl ?_)
  refine listUpdate_at (s := { s with heap := s.heap.update a (Obj.mapSeq (·.push Value.none)) }) ho1 rfl ?_
  have ho2 := get?_update_seq ho1 (·.pop)
  exact h _ _ ((Heap.SameBut.update ..).trans (.update ..)) ho2
theorem nolen_dict : typeLookup (.type "dict") "__len__" = pure (some (.builtin "dict.__len__")) := by rw [typeLookup_type, builtinLookup_eq_fast]; kernel_rfl
theorem collect_dict (hh : A.handled = none) (hds : (d == sysModules) = false) (hD : s.heap.DictAt knd d kvs ep) (hn : kvs.length ≤ sizeLine) {Q : List Value → Shared → Prop}
    (hQ : ∀ s' acc, (∀ b o, s.heap.get? b = some o → s'.heap.get? b = some o) → s'.gens = s.gens → s'.drawn = s.drawn → s'.os = s.os → ItemsOf (fun i v => ∃ k x, kvs[i]? = some (k, x) ∧ knd.is k v = true) acc kvs.length → Q acc.toList s') : wpAny (model prog w) A (collect (.ref d)) Q E s := by
  have hdlt : d < s.heap.objs.size := let ⟨_, _, g, _⟩ := hD; Heap.lt_size g
  unfold collect
  refine wpAny_bind (wpAny_runValue (codeAny_builtin F.entry_proto_collect ?_))
  rw [Around.under_plainId F.plain_proto_collect _]
  show wpAny _ A.in1 (newList [] >>= fun l => again (.builtin "list.__iadd__" ⟨[l, .ref d], []⟩)) _ _ s
  refine wpAny_bind (wpAny_newObj_type ?_)
  refine wpAny_pure ⟨plainId_quiet F.plain_list_iadd _, codeAny_builtin F.entry_list_iadd ?_⟩
  rw [Around.under_plainId F.plain_list_iadd _]
  have hS₁ : (s.heap.push { cls := .type "list", data := .seq ([] : List Value).toArray }).get? s.heap.objs.size = some { cls := .type "list", data := .seq ([] : List Value).toArray } := Heap.get?_push_size _ rfl
  have hD1 : (s.heap.push { cls := .type "list", data := .seq ([] : List Value).toArray }).DictAt knd d kvs ep := hD.at' fun o e => Heap.get?_push_of_some _ e
  have h1 : Builtin.List.listSameRef (.ref s.heap.objs.size) (.ref d) = false := by
    simp only [Builtin.List.listSameRef, beq_eq_false_iff_ne]
    exact fun e => Nat.lt_irrefl _ (e ▸ hdlt)
  show wpAny _ A.in1 (Builtin.List.listExtendWith (.ref s.heap.objs.size) (.ref d) (.ref s.heap.objs.size)) _ _ _
  unfold Builtin.List.listExtendWith
  refine wpAny_bind (wpAny_typeOf (T := "dict") (by obtain ⟨o, es, g, hx, _⟩ := hD1; exact ⟨o, g, hx.1⟩) ?_)
  rw [if_neg (by rw [h1]; decide)]
  refine wpAny_bind (wpAny_pyIter_dict hds hD1 ?_)
  refine wpAny_bind (wpAny_holding ?_)
  unfold Builtin.List.listLengthHint
  have hT2 : ∀ (s2 : Shared), (∀ o, s.heap.get? d = some o → s2.heap.get? d = some o) → s2.TypeIs (.ref d) "dict" := fun s2 e => by obtain ⟨o, es, g, hx, _⟩ := hD; exact ⟨o, e o g, hx.1⟩
  refine wpAny_bind (wpAny_specialOf (T := "dict") (hT2 _ ?_) nolen_dict ?_)
  · exact fun o e => Heap.get?_push_of_some _ (Heap.get?_push_of_some _ e)
  generalize hid : ("dict.__len__" : String) = id0
  (fail_if_success (clear hid id0))
  wp_delta
  rw [show splitId id0 = some ("dict", "__len__") from by subst hid; decide +kernel]
  subst hid
  refine wpAny_bind (wpAny_isInstance (T := "dict") (b := true) (hT2 _ ?_) isSubtype_dict_dict ?_)
  · exact fun o e => Heap.get?_push_of_some _ (Heap.get?_push_of_some _ e)
  refine wpAny_bind (wpAny_typeOf (T := "dict") (hT2 _ ?_) ?_)
  · exact fun o e => Heap.get?_push_of_some _ (Heap.get?_push_of_some _ e)
  refine wpAny_pure ?_
  rw [if_pos (by decide)]
  refine wpAny_bind (wpAny_rule (wpAny_bind (touch_at (n := 0) ?_ fun h' n' hs' ho' => ?_)))
  · exact Heap.get?_push_of_some _ hS₁
  have hsz : (s.heap.push { cls := .type "list", data := .seq ([] : List Value).toArray }).objs.size = s.heap.objs.size + 1 := Heap.size_push _ _
  have kk : ∀ b o, b ≠ s.heap.objs.size → s.heap.get? b = some o → h'.get? b = some o := fun b o hb e => (hs'.2 b hb).trans (Heap.get?_push_of_some _ (Heap.get?_push_of_some _ e))
  have hki : ((s.heap.push { cls := .type "list", data := .seq ([] : List Value).toArray }).push { cls := .type "dict_keyiterator", data := .fields #[.ref d, .int 0 0, .int kvs.length 0, .int ep 0] }).get? (s.heap.objs.size + 1) = some { cls := .type "dict_keyiterator", data := .fields #[.ref d, .int 0 0, .int kvs.length 0, .int ep 0] } := by
    have := Heap.get?_push_size (s.heap.push { cls := .type "list", data := .seq ([] : List Value).toArray }) (o := { cls := .type "dict_keyiterator", data := .fields #[.ref d, .int 0 0, .int kvs.length 0, .int ep 0] }) rfl
    rw [hsz] at this
    exact this
  have hkey : h'.IsKeyIter (s.heap.objs.size + 1) d 0 kvs.length ep := ⟨_, (hs'.2 _ (Nat.succ_ne_self _)).trans hki, rfl, rfl⟩
  have hdict : h'.DictAt knd d kvs ep := hD.at' fun o e => kk d o (Nat.ne_of_lt hdlt) e
  have hSf : s.heap.objs.size ∉ [s.heap.objs.size + 1, d] := fun hm => by
    rcases List.mem_cons.mp hm with e | hm
    · exact Nat.succ_ne_self _ e.symm
    · rcases List.mem_cons.mp hm with e | hm
      · exact Nat.lt_irrefl _ (e ▸ hdlt)
      · cases hm
  rw [hsz]
  refine wpAny_pure ⟨plainId_quiet F.plain_extend_loop _, codeAny_extend_loopS (Walks.dictKeys (A := A.in1) (knd := knd) hh (s.heap.objs.size + 1) d (fun e => by rw [e] at hdlt; exact absurd hdlt (Nat.not_lt.mpr (Nat.le_succ _))) kvs ep).toS hn _ hSf _ kvs.length 0 _ _ _ rfl (Nat.zero_le _) ⟨hkey, hdict⟩ ho' (ItemsOf.nil _) fun s' acc' c' hm hS' hacc => ?_⟩
  show wpAny _ A (load s.heap.objs.size >>= _) _ _ s'
  refine wpAny_bind (wpAny_load hS' ?_)
  refine wpAny_pure (hQ s' acc' (fun b o e => ?_) hm.gens hm.drawn hm.os hacc)
  have hb := Heap.lt_size e
  refine hm.heap b o (fun hmem => ?_) (kk b o (Nat.ne_of_lt hb) e)
  rcases List.mem_cons.mp hmem with q | hmem
  · exact absurd hb (by rw [q]; exact Nat.lt_irrefl _)
  · rcases List.mem_cons.mp hmem with q | hmem
    · exact absurd hb (by rw [q]; exact Nat.not_lt.mpr (Nat.le_succ _))
    · cases hmem
end
end Nx
end
section
set_option autoImplicit false
namespace Nx
section
variable {nf : Bool} {c : Cx} {A : Around} {H : AHeap} {W : WM} {s : Shared}
theorem cw_sorted_dI (t0 : Tag) (hh : A.handled = none) {d : Addr} {t' : Tag} {l : List (Int × AV)} {E' : AV → AHeap → Prop} (h2 : H d = some (t', .dI l)) (hz : l.length < 64) :
    CallW nf c A H (.builtin "sorted") [.ref d] (fun r H' => ∃ (a : Addr) (ns : List Int), H a = none ∧ r = .ref a ∧ ns.Perm (l.map (·.1)) ∧ ns.Pairwise (· ≤ ·) ∧ H' = upd H a (t0, .list (ns.map AV.int))) E' := fun W s vs outer ok hA hff hv => by
  cases hv with | cons r1 hv => cases hv with | nil =>
  obtain rfl : _ = Value.ref d := r1
  obtain ⟨kvs, ⟨o, es, ep, D⟩, kv, _⟩ := ok.dI h2
  have hl := kv.length
  have hk := kv.keys
  refine wpN_of (sorted_of (wpAny_ge (collect_dict (A := A.in1) (knd := intKind c.prog c.w) (kvs := kvs) (ep := ep) hh (c.noMods (ok.own _ _ _ h2).1) ⟨o, es, D⟩ (by rw [sizeLine_eq]; omega) ?_)))
  intro s' acc kk hg hdr hos hI ge
  have hints : IntsAre acc.toList (l.map (·.1)) := by
    refine ints_of (by rw [Array.length_toList, hI.1]; simp [hl]) fun j v hj => ?_
    obtain ⟨k, x, e1, e2⟩ := hI.2 j v (by simpa using hj)
    obtain ⟨tk, rfl⟩ := Value.isInt_shape e2
    refine ⟨k, tk, ?_, rfl⟩
    rw [← hk, List.getElem?_map, e1]; rfl
  refine ⟨_, hints, by rw [Array.length_toList, hI.1]; omega, fun h' a out ns' e k hsz ha hob hint hperm hsort => ?_⟩
  obtain ⟨hp1, gg1, dr1, tk1, os1⟩ := s'
  obtain rfl : gg1 = s.gens := hg
  obtain rfl : dr1 = s.drawn := hdr
  obtain rfl : os1 = s.os := hos
  have hsz1 : s.heap.objs.size ≤ hp1.objs.size := ge.1
  have ha' : hp1.objs.size = a := ha
  have hsa : s.heap.objs.size ≤ a := by omega
  have hHa : H a = none := by
    cases q : H a with
    | none => rfl
    | some y => exact absurd (ok.lt q) (Nat.not_lt.mpr hsa)
  have hWa : W a = none := by
    cases q : W a with
    | none => rfl
    | some y => obtain ⟨_, _, o, g, _⟩ := ok.frz _ _ q; exact absurd (Heap.lt_size g) (Nat.not_lt.mpr hsa)
  have pp := ok.grow (h' := h') tk1 (fun b o e => k _ _ (kk b o e)) (Nat.le_trans hsz1 hsz)
  have hlen := ints_len hint
  have hpl := hperm.length_eq
  rw [List.length_map] at hpl
  refine ⟨W, upd H a (t0, .list (ns'.map AV.int)), .ref a, ⟨pp.ok.take hHa hWa (Nat.le_trans ok.low hsa) hob (OR.list' (vs := out.toList) rfl rfl (ints_vr hint) (by rw [List.length_map]; omega)) rfl, pp.ext, pp.keep, pp.size, fun b hb => ?_, pp.wdom⟩, VR.ref', a, ns', hHa, rfl, hperm, hsort, rfl⟩
  by_cases e : b = a
  · exact .inr (e ▸ hsa)
  · rw [upd_ne e] at hb; exact pp.dom b hb
end
end Nx
end
section
set_option autoImplicit false
namespace Nx
/-! ### generators: a stretch of a run, from a waking to its next end -/
def Sg (M : Model) (A : Around) (Φ : End → Shared → Prop) (cd : Code) (t : Sem Fin) (fs : List PySem.Frame) (s : Shared) : Prop := ∀ Γ p, Γ.code = cd → Γ.Woken A → ∃ e s', Runs M Γ p t fs s e s' ∧ Φ e s'
section
variable {M : Model} {A : Around} {Φ : End → Shared → Prop} {cd : Code} {fs : List PySem.Frame} {s : Shared}
theorem sg_wrap {α : Type} {m : Sem α} {K : α → Sem Fin} {H : Value → Sem Fin} {gd : Bool → Bool} {lv : List Value → List Value}
    (h : wpAny M (A.over cd fs) m (fun a s' => Sg M A Φ cd (K a) fs s') (fun x s' => Sg M A Φ cd (H x) fs s') s) : Sg M A Φ cd (m.wrap K H gd lv) fs s := by
  rintro Γ p rfl hΓ
  exact runs_wrap_of_wp K H gd lv m (h (Γ.over fs) p (hΓ.over fs)) (fun a p' s' h' => h' Γ p' rfl hΓ) (fun x p' s' h' => h' Γ p' rfl hΓ)
theorem sg_bw {α β : Type} {m : Sem α} {K : α → Sem β} {K' : β → Sem Fin} {H : Value → Sem Fin} {gd : Bool → Bool} {lv : List Value → List Value}
    (h : wpAny M (A.over cd fs) m (fun a s' => Sg M A Φ cd ((K a).wrap K' H gd lv) fs s') (fun x s' => Sg M A Φ cd (H x) fs s') s) : Sg M A Φ cd ((m >>= K).wrap K' H gd lv) fs s := by
  rw [Sem.bind_eq_wrap', Sem.wrap_wrap]; exact sg_wrap h
theorem sg_call {c' : Code} {h : Option Value} {g : Bool} {l : List Value} {k : Result → Sem Fin} (hc : ∀ p, Sg M A Φ c' (M.den c') (.ret k h g l cd p [] :: fs) s) : Sg M A Φ cd (.call c' h g l k) fs s := by
  rintro Γ p rfl hΓ
  obtain ⟨e, s', hr, he⟩ := hc p (Γ.goto c') p rfl (hΓ.goto c')
  exact ⟨e, s', runs_call_seg hr, he⟩
theorem sg_leaf {k : Result → Sem Fin} {h : Option Value} {g : Bool} {l : List Value} {c₁ : Code} {p₁ : Pos} {kp : List Value} (r : Result) (hk : Sg M A Φ c₁ (k r) fs s) : Sg M A Φ cd (leafOf r) (.ret k h g l c₁ p₁ kp :: fs) s := by
  rintro Γ p rfl hΓ
  obtain ⟨e, s', hr, he⟩ := hk (Γ.goto c₁) p₁ rfl (hΓ.goto c₁)
  exact ⟨e, s', Runs.pop r hr, he⟩
theorem sg_again {c' : Code} (hq : c'.quiet = true) (hc : Sg M A Φ c' (M.den c') fs s) : Sg M A Φ cd (.pure (.again c')) fs s := by
  rintro Γ p rfl hΓ
  obtain ⟨e, s', hr, he⟩ := hc (Γ.goto c') p rfl (hΓ.goto c')
  exact ⟨e, s', Runs.head (c₁ := c') (fun _ _ x => .again hq x) hr, he⟩
theorem sg_end (r : Result) (h : Φ (.ret r) s) : Sg M A Φ cd (leafOf r) [] s := by
  rintro Γ p rfl _
  exact ⟨.ret r, s, Runs.leaf r, h⟩
theorem sg_yield {v : Value} {g : Bool} {l : List Value} {k : Resume → Sem Fin} (hfs : splitAtGen fs = none) (h : ∀ p, Φ (.susp v g l k cd p fs) s) : Sg M A Φ cd (.yield v g l k) fs s := by
  rintro Γ p rfl _
  exact ⟨_, s, Runs.yield' fs hfs, h p⟩
theorem Sg.mono {t : Sem Fin} {Φ' : End → Shared → Prop} (h : Sg M A Φ cd t fs s) (k : ∀ e s', Φ e s' → Φ' e s') : Sg M A Φ' cd t fs s := fun Γ p hc hΓ => by
  obtain ⟨e, s', hr, he⟩ := h Γ p hc hΓ
  exact ⟨e, s', hr, k e s' he⟩
end

/-- how a generator goes on, once woken -/
def GoP (M : Model) (A : Around) (Φ : End → Shared → Prop) (s : Shared) : GenState → Prop
  | .fresh cd => Sg M A Φ cd (M.den cd) [] s
  | .suspended k _ cd _ fs _ => Sg M A Φ cd (k (.send .none)) fs s
  | _ => False
theorem wp_resume {M : Model} {A : Around} {Φ : End → Shared → Prop} {E : Value → Shared → Prop} {s : Shared} {g : Nat} {gs : GenState} {l : List Value} {α : Type} {k : GenResult → Sem α} {Q : α → Shared → Prop} (hg : s.gens[g]? = some gs)
    (hgo : GoP M A Φ (s.setGen g .running) gs) (hq : ∀ e s₁, Φ e s₁ → e.quiet = true) (h : ∀ e s₁, Φ e s₁ → wpAny M A (k e.result) Q E (s₁.setGen g e.genState)) : wpAny M A (.resume g (.send .none) l k) Q E s := by
  intro Γ p hΓ
  rw [Sem.wp_resume]
  cases gs with
  | fresh c =>
    obtain ⟨e₁, s₁, hr, he⟩ := hgo (Γ.wake c p) p rfl (hΓ.wake c p)
    exact ⟨_, _, by unfold Wakes; rw [hg]; exact ⟨e₁, s₁, hr, hq e₁ s₁ he, rfl, rfl⟩, h e₁ s₁ he Γ p hΓ⟩
  | suspended k₀ l₀ c₀ p₀ fs₀ cl =>
    obtain ⟨e₁, s₁, hr, he⟩ := hgo (Γ.wake c₀ p) p₀ rfl (hΓ.wake c₀ p)
    exact ⟨_, _, by unfold Wakes; rw [hg]; exact ⟨e₁, s₁, hr, hq e₁ s₁ he, rfl, rfl⟩, h e₁ s₁ he Γ p hΓ⟩
  | running => exact hgo.elim
  | finished => exact hgo.elim

section
variable {c : Cx} {A : Around} {H : AHeap} {W : WM} {s : Shared}
theorem Ok.isGen (ok : Ok c W s H) {a : Addr} {t : Tag} {gi : Nat} {P : GenState → Prop} (h : H a = some (t, .gen gi P)) : s.heap.IsGen a gi := by
  obtain ⟨ob, g, nm, qn, rfl⟩ := ok.get h
  exact ⟨_, nm, qn, g, rfl, rfl, rfl⟩
/-- a generator's state turns -/
theorem Ok.setGen (ok : Ok c W s H) {a : Addr} {t : Tag} {gi : Nat} {P P' : GenState → Prop} {gs : GenState} (h : H a = some (t, .gen gi P)) (hb : gs.bare = true) (hp : P' gs) : Post c W s H W (s.setGen gi gs) (Nx.upd H a (t, .gen gi P')) := by
  obtain ⟨hB, ob, g, r⟩ := ok.own _ _ _ h
  obtain ⟨⟨g0, e0, _⟩, uniq⟩ := ok.gen _ _ _ _ h
  have sub : ∀ b t' gi' P'', b ≠ a → Nx.upd H a (t, .gen gi P') b = some (t', .gen gi' P'') → H b = some (t', .gen gi' P'') := fun b t' gi' P'' e q => by rw [upd_ne e] at q; exact q
  refine ⟨⟨ok.old, ok.stat, ok.os, fun y hy => ?_, ok.low, fun b u x hx => ?_, fun b u gi' P'' hx => ?_, fun b v hv => ?_⟩, Ext.refl W, fun b ob g _ _ _ => ⟨ob.slots, g⟩, Nat.le_refl _, fun b hb' => ?_, fun _ h => .inl h⟩
  · obtain ⟨i, hi, rfl⟩ := Array.mem_iff_getElem.mp hy
    have hi' : i < (s.gens.setIfInBounds gi gs).size := hi
    show ((s.gens.setIfInBounds gi gs)[i]'hi').bare = true
    rw [Array.getElem_setIfInBounds (by simpa using hi')]
    split
    · exact hb
    · exact ok.bare _ (Array.getElem_mem _)
  · by_cases e : b = a
    · subst e; rw [upd_same] at hx; cases hx; exact ⟨hB, ob, g, r⟩
    · rw [upd_ne e] at hx; exact ok.own b u x hx
  · by_cases e : b = a
    · rw [e, upd_same] at hx; cases hx; rw [e]
      refine ⟨⟨gs, setGen_self e0, hp⟩, fun b t' P'' hx => ?_⟩
      by_cases e : b = a
      · exact e
      · exact uniq b t' P'' (sub _ _ _ _ e hx)
    · have hx' := sub _ _ _ _ e hx
      have hne : gi' ≠ gi := fun q => by subst q; exact e (uniq _ _ _ hx')
      obtain ⟨⟨g1, e1, h1⟩, u1⟩ := ok.gen _ _ _ _ hx'
      refine ⟨⟨g1, by show (s.gens.setIfInBounds gi gs)[gi']? = _; rw [Array.getElem?_setIfInBounds, if_neg (Ne.symm hne)]; exact e1, h1⟩, fun b2 t2 P2 h2 => ?_⟩
      by_cases e2 : b2 = a
      · subst e2; rw [upd_same] at h2; cases h2; exact absurd rfl hne
      · exact u1 _ _ _ (sub _ _ _ _ e2 h2)
  · obtain ⟨h1, h2, h3⟩ := ok.frz b v hv
    have e : b ≠ a := fun e => by rw [e, h] at h2; cases h2
    exact ⟨h1, (upd_ne e).trans h2, h3⟩
  · by_cases e : b = a
    · subst e; exact .inl (by rw [h]; exact fun z => nomatch z)
    · rw [upd_ne e] at hb'; exact .inl hb'

/-- a generator that is on its way, or whose state is nobody's concern -/
abbrev anyGen (gi : Nat) : AObj := .gen gi fun _ => True
/-- next(g) -/
theorem next_gen {a : Addr} {t : Tag} {gi : Nat} {P : GenState → Prop} {K : Option AV → AHeap → Prop} (hh : A.handled = none) (hroom : A.depth < recursionLimit) (h : H a = some (t, .gen gi P))
    (hP : ∀ gs W s fs, P gs → Ok c W s (upd H a (t, anyGen gi)) → A.frames = some fs → FF c W s.heap (upd H a (t, anyGen gi)) fs →
      GoP c.M A.in1 (fun e s' => e.quiet = true ∧ ∃ W' H', Post c W s (upd H a (t, anyGen gi)) W' s' H' ∧ H' a = some (t, anyGen gi) ∧ match e with
        | .ret (.ok .next) => K none H'
        | .ret (.ok (.ret .none)) => K none H'
        | .susp v .. => ∃ x P', VR W' v x ∧ P' e.genState ∧ K (some x) (upd H' a (t, .gen gi P'))
        | _ => False) s gs) : NextOk c A H (.ref a) K := by
  intro W s fs ok hA hff
  have hg := ok.isGen h
  obtain ⟨⟨gs, e0, hp⟩, _⟩ := ok.gen _ _ _ _ h
  unfold pyNext
  refine wpAny_bind (wpAny_attempt (wpAny_callSpecial?_slot (name := Str.ofString "__next__") hg.typeIs slot_gen_next
    (wpAny_call_entry slot_gen_next hg.typeIs entry_gen_next ?_ (args_gen_next _))))
  show wpAny _ A.in1 (Builtin.Generator.genWake (.ref a) (.send .none)) _ _ s
  unfold Builtin.Generator.genWake
  refine wpAny_bind (wpAny_holding (wpAny_genNumber hg (wpAny_bind (wpAny_genState e0 ?_))))
  have p0 := ok.setGen (P' := fun _ => True) (gs := .running) h rfl trivial
  have ff0 := hff.keep p0
  have go := hP gs W (s.setGen gi .running) fs hp p0.ok hA ff0
  cases gs with
  | running => exact go.elim
  | finished => exact go.elim
  | _ =>
    refine wpAny_bind (wpAny_roomToWake ok.lim hroom ?_)
    show wpAny _ A.in1 (.resume gi (.send .none) [] _) _ _ s
    refine wp_resume e0 go (fun e s₁ z => z.1) (fun e s₁ z => ?_)
    obtain ⟨hq, W1, H1, p1, h1, z⟩ := z
    cases e with
    | ret r => 
      rcases r with e | (_ | _ | _ | v)
      · exact z.elim
      · have p2 := p1.ok.setGen (P' := fun _ => True) (gs := .finished) h1 rfl trivial
        rw [upd_eq h1] at p2
        show wpAny _ A.in1 (newExc (.type "StopIteration") [] >>= _) _ _ _
        refine wpAny_bind ?_
        simp only [newExc, newTuple]
        refine wpAny_bind (wpAny_newObj_type ?_ (by size_fits))
        refine wpAny_bind (m := firstArgMember _ _) (wpAny_of_eq (a := Value.none) (by first | rfl | (simp only [firstArgMember]; rfl)) ?_)
        refine wpAny_newObj_type ?_ (by size_fits)
        simp only [raiseNew]
        refine wpAny_bind (wpAny_bind (wpAny_handled ?_))
        first | rw [show A.in1.handled = none from hh] | rw [hh]
        refine wpAny_throw ?_
        refine wpAny_bind (wpAny_isInstance (T := "StopIteration") (b := true) ⟨_, Heap.get?_push_size _ rfl, rfl⟩ isSubtype_stop ?_)
        exact wpAny_pure ⟨W1, H1, none, (((p0.trans p1).trans p2).trans (p2.ok.grow _ (fun b o hb => Heap.get?_push_of_some _ (Heap.get?_push_of_some _ hb)) (by rw [Heap.size_push, Heap.size_push]; exact Nat.le_trans (Nat.le_succ _) (Nat.le_succ _)))), trivial, z⟩
      · exact z.elim
      · exact z.elim
      · cases v with
        | none =>
          have p2 := p1.ok.setGen (P' := fun _ => True) (gs := .finished) h1 rfl trivial
          rw [upd_eq h1] at p2
          show wpAny _ A.in1 (newExc (.type "StopIteration") [] >>= _) _ _ _
          refine wpAny_bind ?_
          simp only [newExc, newTuple]
          refine wpAny_bind (wpAny_newObj_type ?_ (by size_fits))
          refine wpAny_bind (m := firstArgMember _ _) (wpAny_of_eq (a := Value.none) (by first | rfl | (simp only [firstArgMember]; rfl)) ?_)
          refine wpAny_newObj_type ?_ (by size_fits)
          simp only [raiseNew]
          refine wpAny_bind (wpAny_bind (wpAny_handled ?_))
          first | rw [show A.in1.handled = none from hh] | rw [hh]
          refine wpAny_throw ?_
          refine wpAny_bind (wpAny_isInstance (T := "StopIteration") (b := true) ⟨_, Heap.get?_push_size _ rfl, rfl⟩ isSubtype_stop ?_)
          exact wpAny_pure ⟨W1, H1, none, (((p0.trans p1).trans p2).trans (p2.ok.grow _ (fun b o hb => Heap.get?_push_of_some _ (Heap.get?_push_of_some _ hb)) (by rw [Heap.size_push, Heap.size_push]; exact Nat.le_trans (Nat.le_succ _) (Nat.le_succ _)))), trivial, z⟩
        | _ => exact z.elim
    | susp v g l k cd p fs0 =>
      obtain ⟨x, P', r, hp', hk⟩ := z
      have p2 := p1.ok.setGen (P' := P') (gs := (End.susp v g l k cd p fs0).genState) h1 (End.bare_of_quiet hq) hp'
      exact wpAny_pure ⟨v, rfl, wpAny_pure ⟨W1, _, some x, (p0.trans p1).trans p2, r, hk⟩⟩
end
end Nx
end
section
set_option autoImplicit false
namespace Nx
section
variable {c : Cx} {A : Around} {env : Env} {m m' : LM} {W W' : WM} {s s' : Shared} {H H' : AHeap}
/-! ### in a generator's frame -/
theorem Post.dropR (p : Post c W s H W' s' H') (a : Addr) : Post c W s H W' s' (Nx.drop H' a) :=
  ⟨p.ok.drop a, p.ext, p.keep, p.size, fun b hb => p.dom b (drop_some hb), p.wdom⟩
theorem PostX.dropR {L : Addr} (p : PostX c L W s H W' s' H') (a : Addr) : PostX c L W s H W' s' (Nx.drop H' a) :=
  ⟨p.ok.drop a, p.ext, p.keep, p.size, fun b hb => p.dom b (drop_some hb), p.wdom⟩
/-- what a generator's environment is -/
structure GEnv (env : Env) (C : Addr) : Prop where
  loc : env.locals = C
  fr : env.frame = some C
  kind : env.scope.kind = .function
  co : env.scope.isCoroutine = false
theorem Ok.noW (ok : Ok c W s H) {a : Addr} {x : Tag × AObj} (h : H a = some x) : W a = none := by
  cases q : W a with
  | none => rfl
  | some v => have := (ok.frz _ _ q).2.1; rw [h] at this; cases this
/-- the frame's dict, taken out of H -/
theorem wake {C : Addr} {t : Tag} {fs : List Env} (ok : Ok c W s H) (he : GEnv env C) (hC : H C = some (t, .loc m)) (hA : A.frames = some fs) (ff : FF c W s.heap H fs) : Ok c W s (Nx.drop H C) ∧ Fo c W s (Nx.drop H C) env (A.deeper env) m := by
  obtain ⟨hB, ob, g, es, ep, hd, hs, hm⟩ := ok.own _ _ _ hC
  have hW := ok.noW hC
  obtain ⟨rfl, hfr, hk, _⟩ := he
  refine ⟨ok.drop _, ⟨⟨nsFind es, ⟨ob, es, ep, g, hd, hs, fun _ => rfl⟩, hm⟩, by simp [Nx.drop], hW, hB, ⟨fs, Around.frames_deeper hA, fun e hen => ?_⟩, hfr⟩⟩
  rcases List.mem_cons.mp hen with rfl | hen
  · exact ⟨by rw [hk]; decide, _, ob, hfr, hB, ⟨by simp [Nx.drop], hW⟩, g, fun vs z => by rw [hd] at z; cases z⟩
  · obtain ⟨k, L, o, a, b, ⟨h1, h2⟩, e⟩ := ff e hen
    exact ⟨k, L, o, a, b, ⟨drop_none h1, h2⟩, e⟩
/-- and put back -/
theorem asleep {C : Addr} {t : Tag} (he : GEnv env C) (hC : H C = some (t, .loc m)) (p : PostX c env.locals W s (Nx.drop H C) W' s' H') (fo : Fo c W' s' H' env A m') : Post c W s H W' s' (upd H' C (t, .loc m')) := by
  obtain ⟨mr, ⟨o, es, ep, g, hd, hs, hm⟩, hr⟩ := fo.ns
  obtain ⟨rfl, _⟩ := he
  refine ⟨p.ok.take fo.un fo.unW fo.new g ⟨es, ep, hd, hs, fun x => by rw [hm]; exact hr x⟩ rfl, p.ext, fun b ob hb hH hB hf => ?_, p.size, fun b hb => ?_, fun b hb => ?_⟩
  · exact p.keep b ob (fun e => by rw [e, hC] at hH; cases hH) hb (drop_none hH) hB hf
  · by_cases e : b = env.locals
    · exact .inl (by rw [e, hC]; exact fun z => nomatch z)
    · rw [upd_ne e] at hb
      exact (p.dom b hb).imp_left drop_some
  · exact (p.wdom b hb).imp_right (.imp_left drop_some)
/-- a part of a stretch, in abstract words -/
theorem sg_ag {α α' β : Type} {R : WM → α → β → Prop} {Φ : End → Shared → Prop} {cd : Code} {fs : List PySem.Frame} {t : Sem α} {f : α → Sem α'} {K : α' → Sem Fin} {Hd : Value → Sem Fin} {gd : Bool → Bool} {lv : List Value → List Value} {Q : β → LM → AHeap → Prop}
    (hA : A.over cd fs = A.deeper env) (h : AG R false c (A.deeper env) env m H t Q (fun _ _ _ => False)) (ok : Ok c W s H) (fo : Fo c W s H env (A.deeper env) m)
    (k : ∀ W' s' m' H' x y, PostX c env.locals W s H W' s' H' → Fo c W' s' H' env (A.deeper env) m' → R W' x y → Q y m' H' → Sg c.M A Φ cd ((f x).wrap K Hd gd lv) fs s') : Sg c.M A Φ cd ((t >>= f).wrap K Hd gd lv) fs s := by
  refine sg_bw ?_
  rw [hA]
  exact wpAny_mono (wpN_any (h W s ok fo)) (fun x s' ⟨W', H', m', y, p, fo', r, q⟩ => k W' s' m' H' x y p fo' r q) fun _ _ ⟨_, _, _, _, _, _, _, z⟩ => z.elim
end

/-- the codes of a generator expression, over the generator's frame -/
theorem over_loop {A : Around} {elt : Expr} {gens : List Comprehension} {sc : Scope} {pos : Pos} {it acc : Value} {env : Env} : A.over (.compLoop (.GeneratorExp elt gens sc pos) 0 it acc env) [] = A.deeper env := by
  obtain ⟨h, d, fr, gs, u⟩ := A
  cases fr <;> cases gs <;> rfl
theorem over_start {A : Around} {elt : Expr} {gens : List Comprehension} {sc : Scope} {pos : Pos} {it acc : Value} {env : Env} : A.over (.compStart (.GeneratorExp elt gens sc pos) 0 it acc env) [] = A.deeper env := by
  obtain ⟨h, d, fr, gs, u⟩ := A
  cases fr <;> cases gs <;> rfl
theorem over_loop1 {A : Around} {elt : Expr} {gens : List Comprehension} {sc : Scope} {pos : Pos} {it it' acc : Value} {env : Env} {k : Result → Sem Fin} {g : Bool} {l kp : List Value} {p : Pos} :
    A.over (.compLoop (.GeneratorExp elt gens sc pos) 1 it' acc env) [.ret k none g l (.compLoop (.GeneratorExp elt gens sc pos) 0 it acc env) p kp] = A.deeper env := by
  obtain ⟨h, d, fr, gs, u⟩ := A
  cases fr <;> cases gs <;> rfl
theorem over_start1 {A : Around} {elt : Expr} {gens : List Comprehension} {sc : Scope} {pos : Pos} {it it' acc : Value} {env : Env} {k : Result → Sem Fin} {g : Bool} {l kp : List Value} {p : Pos} :
    A.over (.compStart (.GeneratorExp elt gens sc pos) 1 it' acc env) [.ret k none g l (.compLoop (.GeneratorExp elt gens sc pos) 0 it acc env) p kp] = A.deeper env := by
  obtain ⟨h, d, fr, gs, u⟩ := A
  cases fr <;> cases gs <;> rfl
end Nx
end
section
set_option autoImplicit false
namespace Nx
abbrev RT {α : Type} : WM → α → Unit → Prop := fun _ _ _ => True
section
variable {nf : Bool} {c : Cx} {A : Around} {env : Env} {m m' : LM} {W W' : WM} {s s' : Shared} {H H' : AHeap} {E : AV → LM → AHeap → Prop}
/-! ### a turn over the items of a dict by ints -/
theorem ag_item {it d : Addr} {t t' : Tag} (t3 : Tag) {i : Nat} {ob : Obj} {l : List (Int × AV)} {k : Int} {v : AV} (h1 : H it = some (t, .itm d i l.length (epOf ob))) (h2 : H d = some (t', .pin ob (.dI l))) (hv : l[i]? = some (k, v)) :
    AG OV nf c A env m H (pyNext (.ref it)) (fun r m' H' => m' = m ∧ ∃ a, H a = none ∧ r = some (.ref a) ∧ H' = upd (upd H it (t, .itmo d (i + 1) l.length (epOf ob) a)) a (t3, .otup [.int k, v])) E := fun W s ok fo =>
  wpN_of (next_item t3 h1 h2 hv ok fun s' a ha p => ⟨W, _, m, some (.ref a), p.x _, fo.keep p, VR.ref' (W := W), rfl, a, ha, rfl, rfl⟩)
theorem ag_items_end (hh : A.handled = none) {it d : Addr} {t t' : Tag} {i : Nat} {ob : Obj} {l : List (Int × AV)} (h1 : H it = some (t, .itm d i l.length (epOf ob))) (h2 : H d = some (t', .pin ob (.dI l))) (hv : l[i]? = none) :
    AG OV nf c A env m H (pyNext (.ref it)) (fun r m' H' => m' = m ∧ r = none ∧ H' = Nx.drop H it) E := fun W s ok fo => by
  obtain ⟨kvs, D, kv⟩ := ok.pinned h2
  have hl := kv.length
  obtain ⟨ob1, g, k0, v0, rfl⟩ := ok.get h1
  refine wpN_of (wpAny_size (wpAny_pyNext_items_end hh (hl ▸ g) D (by simp at hv ⊢; omega) fun h' hs hz => ?_))
  have p1 := ok.lose s.toks h1 hs hz
  exact ⟨W, _, m, none, p1.x _, fo.keep p1, trivial, rfl, rfl, rfl⟩
theorem ag_go {elts : List Expr} {k : Nat} {pos : Pos} {it d a : Addr} {t : Tag} {i n ep : Nat} (h1 : H it = some (t, .itmo d i n ep a)) :
    AG RT nf c A env m H (letOwnedTupleGo (.Tuple elts k pos) (.ref it) (.ref a)) (fun _ m' H' => m' = m ∧ H' = upd H it (t, .itm d i n ep)) E := fun W s ok fo =>
  wpN_of (tuple_go ok h1 fun s' p => ⟨W, _, m, (), p.x _, fo.keep p, trivial, rfl, rfl⟩)
theorem ag_unpack {elts : List Expr} {k : Nat} {pos : Pos} {names : List Str} {a : Addr} {vs : List AV} (hU : UnpOk c A H (.ref a) vs) (hN : NamesOf elts names) (hl : names.length = vs.length) (hk : ∀ x ∈ names, env.kindOf x = some .local) (hf : env.scope.kind = .function) :
    AG RT nf c A env m H (assign (.Tuple elts k pos) env (.ref a)) (fun _ m' H' => m' = setms m (names.zip vs) ∧ H' = H) E := fun W s ok fo =>
  wpN_of (put_tuple ok fo VR.ref' hU hN hl hk hf fun W' s' p fo' => ⟨W', H, _, (), p, fo', trivial, rfl, rfl⟩)
theorem AG.then {α β : Type} {R : WM → α → β → Prop} {t : Sem α} {Q Q' : β → LM → AHeap → Prop} (h : AG R nf c A env m H t Q E) (k : ∀ y m' H', Q y m' H' → Q' y m' H') : AG R nf c A env m H t Q' E := AG.mono h k fun _ _ _ z => z
/-- iter() of such an iterator -/
theorem entry_itm_iter : entryFor table "dict_itemiterator.__iter__" = some Builtin.«dict_keyiterator.__iter__» :=
  entryFor_alias (id' := "dict_keyiterator.__iter__") (by kernel_rfl) rfl (by decide +kernel) (by kernel_rfl)
theorem iter_itm {it d : Addr} {t : Tag} {i n ep : Nat} (h : H it = some (t, .itm d i n ep)) : AG VR nf c A env m H (pyIter (.ref it)) (fun v m' H' => v = .ref it ∧ m' = m ∧ H' = H) E := fun W s ok fo => by
  obtain ⟨ob, g, k0, v0, rfl⟩ := ok.get h
  have hT : s.TypeIs (.ref it) "dict_itemiterator" := ⟨_, g, rfl⟩
  refine wpN_of (wpAny_pyIter_slot hT F.slot_dict_itemiterator_iter (wpAny_call_entry F.slot_dict_itemiterator_iter hT entry_itm_iter ?_ (F.args_dict_itemiterator_iter_1 _)))
  show wpAny _ _ (ret (.ref it)) _ _ s
  exact wpAny_pure ⟨_, rfl, "dict_itemiterator", _, hT, F.slot_dict_itemiterator_next.lookup, W, H, m, .ref it, (Post.refl ok).x _, fo, rfl, rfl, rfl, rfl⟩
end

/-! ### a generator's life -/
def GLife (c : Cx) (R : Nat) (a : Addr) (t : Tag) (gi sid : Nat) (I : Nat → AHeap → Prop) (item : Nat → AV → AHeap → Prop) : Nat → Nat → GenState → Prop
  | 0, i => fun gs => ∀ A W s H fs, Rm A R → Ok c W s H → A.frames = some fs → FF c W s.heap H fs → H a = some (t, anyGen gi) → I i H →
      GoP c.M A (fun e s' => e = .ret (.ok .next) ∧ ∃ W' H', Post c W s H W' s' H' ∧ H' a = some (t, anyGen gi) ∧ Frame sid H H') s gs
  | n + 1, i => fun gs => ∀ A W s H fs, Rm A R → Ok c W s H → A.frames = some fs → FF c W s.heap H fs → H a = some (t, anyGen gi) → I i H →
      GoP c.M A (fun e s' => e.quiet = true ∧ ∃ v g l k cd p fs, e = .susp v g l k cd p fs ∧ ∃ W' H' x, Post c W s H W' s' H' ∧ H' a = some (t, anyGen gi) ∧ Frame sid H H' ∧ VR W' v x ∧ item i x H' ∧ I (i + 1) H' ∧ GLife c R a t gi sid I item n (i + 1) e.genState) s gs
theorem GoP.mono {M : Model} {A : Around} {Φ Φ' : End → Shared → Prop} {s : Shared} {gs : GenState} (h : GoP M A Φ s gs) (k : ∀ e s', Φ e s' → Φ' e s') : GoP M A Φ' s gs := by
  cases gs with
  | fresh cd => exact Sg.mono h k
  | suspended _ _ _ _ _ _ => exact Sg.mono h k
  | running => exact h
  | finished => exact h
/-- a generator is such a source -/
theorem src_gen {c : Cx} {k gid sid n R gi : Nat} {a : Addr} {t : Tag} {I : Nat → AHeap → Prop} {item : Nat → AV → AHeap → Prop} (ht : t.own = sid) (hs : sid ≠ gid) (hs0 : sid ≠ xo) (hR : R + 1 ≤ k)
    (hI : ∀ i H P, I i H → H a = some (t, anyGen gi) ∨ (∃ P, H a = some (t, .gen gi P)) → I i (upd H a (t, .gen gi P))) (hit : ∀ i x H P, item i x H → H a = some (t, anyGen gi) → item i x (upd H a (t, .gen gi P)))
    (hst : ∀ i H H', I i H → Frame gid H H' → I i H') :
    Src c k gid sid a n item (fun i H => H a = some (t, .gen gi (GLife c R a t gi sid I item (n - i) i)) ∧ I i H) where
  step A i H rm hi := fun ⟨h1, h2⟩ => by
    have rm1 : Rm A.in1 R := (rm.less hR).in1
    refine next_gen rm.h rm.room h1 fun gs W s fs hp ok hA ff => ?_
    obtain ⟨m, hm⟩ : ∃ m, n - i = m + 1 := ⟨n - i - 1, by omega⟩
    rw [hm] at hp
    refine (hp A.in1 W s _ fs rm1 ok hA ff upd_same (hI i H _ h2 (.inr ⟨_, h1⟩))).mono ?_
    rintro e s' ⟨hq, v, g, l, kk, cd, p, fs', rfl, W', H', x, p1, h3, f1, r, hx, hI', hl⟩
    refine ⟨hq, W', H', p1, h3, x, _, r, hl, x, rfl, hit _ _ _ _ hx h3, ⟨?_, hI _ _ _ hI' (.inl h3)⟩, ?_⟩
    · rw [show n - (i + 1) = m from by omega]; exact upd_same
    · exact ((Frame.upd (fun t' o q => by rw [h1] at q; cases q; exact ht)).trans f1).trans (Frame.upd fun t' o q => by rw [h3] at q; cases q; exact ht)
  fin A H rm := fun ⟨h1, h2⟩ => by
    have rm1 : Rm A.in1 R := (rm.less hR).in1
    refine next_gen rm.h rm.room h1 fun gs W s fs hp ok hA ff => ?_
    rw [Nat.sub_self] at hp
    refine (hp A.in1 W s _ fs rm1 ok hA ff upd_same (hI n H _ h2 (.inr ⟨_, h1⟩))).mono ?_
    rintro e s' ⟨rfl, W', H', p1, h3, f1⟩
    exact ⟨rfl, W', H', p1, h3, rfl, (Frame.upd (fun t' o q => by rw [h1] at q; cases q; exact ht)).trans f1⟩
  stab i H H' := fun ⟨h1, h2⟩ f => ⟨f _ _ _ h1 (by rw [ht]; exact hs) (by rw [ht]; exact hs0), hst _ _ _ h2 f⟩
end Nx
end
section
set_option autoImplicit false
namespace Nx
section
variable {nf : Bool} {c : Cx} {A : Around} {env : Env} {m m' : LM} {W W' : WM} {s s' : Shared} {H H' : AHeap} {E : AV → LM → AHeap → Prop}
/-! ### generator expressions -/
theorem OldT.table {h h' : Heap} (x : OldT c h) {q : Addr × Addr} (hq : q ∈ c.tabs) {ps more : Array Value} (hps : h.get? q.2 = some (tabObj ps)) (ht' : h'.TableAt q.1 q.2 (ps ++ more)) (hx : Heap.ExtBut q.2 h h') (htr : TriplesOk (ps ++ more).toList) : OldT c h' := by
  obtain ⟨h1, h2, h3⟩ := c.tabsOk q hq
  have hc : CodeHd h q.1 q.2 := by
    obtain ⟨o, vs, file, tf, flags, tg, inF, text, tt, e, r⟩ := h1
    exact ⟨o, vs, file, tf, flags, tg, inF, text, tt, x.k.get_of_cls e (by rw [r.1]; exact fun z => nomatch z), r⟩
  refine ⟨x.k.step_table (h1.tab h2) (hc.tab hps) ht' hx h3, fun q' hq' => ?_⟩
  by_cases e : q'.2 = q.2
  · exact ⟨ps ++ more, by rw [e]; exact ht'.2, htr⟩
  · obtain ⟨ps', e1, r⟩ := x.t q' hq'
    exact ⟨ps', hx _ _ e e1, r⟩
theorem OldT.code {h : Heap} (x : OldT c h) {q : Addr × Addr} (hq : q ∈ c.tabs) : ∃ ps, h.get? q.2 = some (tabObj ps) ∧ h.IsCode q.1 q.2 ps ∧ h.TableAt q.1 q.2 ps := by
  obtain ⟨h1, h2, h3⟩ := c.tabsOk q hq
  have hc : CodeHd h q.1 q.2 := by
    obtain ⟨o, vs, file, tf, flags, tg, inF, text, tt, e, r⟩ := h1
    exact ⟨o, vs, file, tf, flags, tg, inF, text, tt, x.k.get_of_cls e (by rw [r.1]; exact fun z => nomatch z), r⟩
  obtain ⟨ps, e, r⟩ := x.t q hq
  exact ⟨ps, e, hc.code e r, hc.tab e⟩
/-- a code is made, or found -/
theorem gen_code {q : Addr × Addr} {pos : Pos} {qual : Str} {scope : Scope} {Q : Value → Shared → Prop} {E : Value → Shared → Prop} (ok : Ok c W s H) (hq : q ∈ c.tabs) (hc : env.code = .ref q.1) (h : ∀ code s', Post c W s H W s' H → Q code s') : wpAny c.M A (genexprCode env pos qual scope) Q E s := by
  obtain ⟨ps, e, hcd, ht⟩ := ok.old.code hq
  have hPlt : q.2 < c.base.objs.size := Heap.lt_size (c.tabsOk q hq).2.1
  cases z : codeAmong pos ps.toList with
  | some cv => exact wpAny_genexprCode_hit hc hcd z (h cv s (Post.refl ok))
  | none =>
    refine wpAny_genexprCodeX hc hcd ht z fun c' h' tk hx h1 h2 h3 _ h4 _ => h _ _ ?_
    have hsz : s.heap.objs.size ≤ h'.objs.size := by omega
    have htr : TriplesOk (ps ++ #[rawInt pos.line, rawInt pos.col, .ref c']).toList := by
      obtain ⟨o, vs, file, tf, flags, tg, inF, text, tt, op, a1, a2, a3, a4, a5, a6, a7, a8, a9, a10, a11⟩ := h3
      rw [h4.2] at a8
      cases a8
      cases a9
      exact a10
    have low : ∀ b o, c.base.objs.size ≤ b → s.heap.get? b = some o → h'.get? b = some o := fun b o hb e => hx b o (Nat.ne_of_gt (Nat.lt_of_lt_of_le hPlt hb)) e
    refine ⟨⟨ok.old.table hq e h4 hx htr, ?_, ok.os, ok.bare, Nat.le_trans ok.low hsz, fun b u x hx' => let ⟨z1, ob, z2, z3⟩ := ok.own b u x hx'; ⟨z1, ob, low _ _ z1 z2, z3⟩, ok.gen, fun b v hv => let ⟨z1, z2, ob, z3, z4⟩ := ok.frz b v hv; ⟨z1, z2, ob, low _ _ z1 z3, z4⟩⟩,
      Ext.refl W, fun b ob g _ hB _ => ⟨ob.slots, low _ _ hB g⟩, hsz, fun _ h => .inl h, fun _ h => .inl h⟩
    obtain ⟨o, eo⟩ := c.stat
    rw [eo]
    exact hx _ _ (Ne.symm (c.tabsOk q hq).2.2) (ok.stat.trans eo)
theorem Ok.bmod (ok : Ok c W s H) : ∃ bm o, c.mg "__builtins__" = some (.ref bm) ∧ bm ≠ builtinsNs ∧ s.heap.get? bm = some o ∧ o.cls = .type "module" ∧ o.dict = some builtinsNs ∧ o.data = .plain := by
  obtain ⟨bm, o, B⟩ := c.bmod
  exact ⟨bm, o, B.name, B.ne, ok.old.k.get_of_cls B.obj (by rw [B.cls]; exact fun z => nomatch z), B.cls, B.dict, B.data⟩
/-- a new generator -/
theorem Ok.newGen (ok : Ok c W s H) {t : Tag} {P : GenState → Prop} {gs : GenState} {nm qn : Value} (n : Nat) (hb : gs.bare = true) (hp : P gs) :
    Post c W s H W { s with gens := s.gens.push gs, toks := n, heap := s.heap.push { cls := .type "generator", data := .fields #[.int s.gens.size 0, nm, qn] } } (Nx.upd H s.heap.objs.size (t, .gen s.gens.size P)) := by
  have p1 := ok.alloc (t := t) (o := .raw { cls := .type "generator", data := .fields #[.int s.gens.size 0, nm, qn] }) (ob := { cls := .type "generator", data := .fields #[.int s.gens.size 0, nm, qn] }) n rfl rfl rfl
  have old : ∀ b t' gi P', H b = some (t', .gen gi P') → gi < s.gens.size := fun b t' gi P' e => by
    obtain ⟨⟨g0, e0, _⟩, _⟩ := ok.gen _ _ _ _ e
    exact (Array.getElem?_eq_some_iff.mp e0).1
  have hsz : s.heap.objs.size < (s.heap.push ({ cls := .type "generator", data := .fields #[.int s.gens.size 0, nm, qn] } : Obj)).objs.size := by rw [Heap.size_push]; exact Nat.lt_succ_self _
  refine ⟨⟨p1.ok.old, p1.ok.stat, ok.os, ok.bare.push hb, p1.ok.low, fun b u x hx => ?_, fun b u gi P'' hx => ?_, fun b v hv => ?_⟩, Ext.refl W, fun b ob g hH hB hf => p1.keep b ob g hH hB hf, Nat.le_of_lt hsz, fun b hb' => ?_, fun _ h => .inl h⟩
  · by_cases e : b = s.heap.objs.size
    · subst e
      rw [upd_same] at hx; cases hx
      exact ⟨ok.low, _, Heap.get?_push_size _ rfl, _, _, rfl⟩
    · rw [upd_ne e] at hx
      have : Nx.upd H s.heap.objs.size (t, .raw { cls := .type "generator", data := .fields #[.int s.gens.size 0, nm, qn] }) b = some (u, x) := (upd_ne e).trans hx
      exact p1.ok.own b u x this
  · by_cases e : b = s.heap.objs.size
    · subst e
      rw [upd_same] at hx; cases hx
      refine ⟨⟨gs, Array.getElem?_push_size .., hp⟩, fun b2 t2 P2 h2 => ?_⟩
      by_cases e2 : b2 = s.heap.objs.size
      · exact e2
      · rw [upd_ne e2] at h2; exact absurd (old _ _ _ _ h2) (Nat.lt_irrefl _)
    · rw [upd_ne e] at hx
      have hlt := old _ _ _ _ hx
      obtain ⟨⟨g1, e1, h1⟩, u1⟩ := ok.gen _ _ _ _ hx
      refine ⟨⟨g1, by show (s.gens.push gs)[gi]? = _; rw [Array.getElem?_push_lt hlt]; rw [← e1]; exact (Array.getElem?_eq_getElem hlt).symm, h1⟩, fun b2 t2 P2 h2 => ?_⟩
      by_cases e2 : b2 = s.heap.objs.size
      · subst e2; rw [upd_same] at h2; cases h2; exact absurd hlt (Nat.lt_irrefl _)
      · rw [upd_ne e2] at h2; exact u1 _ _ _ h2
  · obtain ⟨h1, h2, ob, h3, h4⟩ := p1.ok.frz b v hv
    refine ⟨h1, ?_, ob, h3, h4⟩
    by_cases e : b = s.heap.objs.size
    · subst e; rw [upd_same] at h2; cases h2
    · rw [upd_ne e] at h2 ⊢; exact h2
  · by_cases e : b = s.heap.objs.size
    · exact .inr (Nat.le_of_eq e.symm)
    · rw [upd_ne e] at hb'; exact .inl hb'
end
end Nx
end
section
set_option autoImplicit false
namespace Nx
/-- a generator expression, taken apart -/
theorem eval_genexp (elt target iter : Expr) (rest : List Comprehension) (scope : Scope) (pos : Pos) (env : Env) (hco : scope.isCoroutine = false) :
    eval (.GeneratorExp elt (⟨target, iter, [], 0⟩ :: rest) scope pos) env = (do
      let x ← eval iter env
      standAt iter.pos
      let x ← genexprIterable false (⟨target, iter, [], 0⟩ :: rest) env x
      let it ← holding [x] (pyIter x)
      enterFrame
      let cl ← closureFor scope env
      let code ← genexprCode env pos (env.qual ++ "<genexpr>") scope
      let bi ← builtinsFor env.globals env.builtins
      let cenv ← newFunctionEnv scope env.globals cl [(".0", it)] (env.qual ++ "<genexpr>.") none code none bi
      newGenerator (.compStart (.GeneratorExp elt (⟨target, iter, [], 0⟩ :: rest) scope pos) 0 it .none cenv) "<genexpr>" (env.qual ++ "<genexpr>")) := by
  rw [arm_eval_GeneratorExp]
  simp only [hco, Bool.false_eq_true, if_false]
  rfl
def dot0 (it : Addr) : LM := fun y => if y = ".0" then some (.ref it) else none
section
variable {nf : Bool} {c : Cx} {A : Around} {env : Env} {m m' : LM} {W W' : WM} {s s' : Shared} {H H' : AHeap} {E : AV → LM → AHeap → Prop}
theorem ae_genexp (tC tg : Tag) (P : Addr → Addr → Addr → Nat → GenState → Prop) {elt target iter : Expr} {rest : List Comprehension} {scope : Scope} {pos : Pos} {q : Addr × Addr} {Q : AV → LM → AHeap → Prop} (hroom : A.depth < recursionLimit) (hq : q ∈ c.tabs) (hcd : env.code = .ref q.1)
    (hi : AE false c A env m H iter (fun v m1 H1 => IterOk false c A H1 v (fun it H2 => ∀ C a gi, H2 C = none → H2 a = none → C ≠ a → Q (.ref a) m1 (upd (upd H2 C (tC, .loc (dot0 it))) a (tg, .gen gi (P it C a gi))))) (fun _ _ _ => False))
    (hP : ∀ it C a gi code, P it C a gi (.fresh (.compStart (.GeneratorExp elt (⟨target, iter, [], 0⟩ :: rest) scope pos) 0 (.ref it) .none (genEnv scope [] C code builtinsNs env))))
    (hco : scope.isCoroutine = false := by rfl) (hk : scope.kind = .function := by rfl) (h0 : scope.names.lookup (".0" : Str) = some NameKind.local := by rfl) (hcell : (scope.names.all fun y => y.2 != .cell) = true := by rfl)
    (hcl : closureFor scope env = pure [] := by rfl) (hg : env.globals = mainGlobals := by rfl)
    (hs : ∀ x, genexprIterable false (⟨target, iter, [], 0⟩ :: rest) env x = pure x := by intro _; rfl) : AE nf c A env m H (.GeneratorExp elt (⟨target, iter, [], 0⟩ :: rest) scope pos) Q E := .mk fun W s ok fo => wpN_of (by
  show wpAny c.M A (eval (.GeneratorExp elt (⟨target, iter, [], 0⟩ :: rest) scope pos) env) _ _ s
  rw [eval_genexp _ _ _ _ _ _ _ hco]
  refine wpAny_bind (wpAny_mono (wpN_any (hi.ag W s ok fo)) (fun u s1 ⟨W1, H1, m1, v, p1, f1, r1, q1⟩ => ?_) fun _ _ ⟨_, _, _, _, _, _, _, z⟩ => z.elim)
  refine wpAny_bind (wpAny_standAt ?_)
  rw [hs u]
  refine wpAny_bind (wpAny_pure ?_)
  refine wpAny_bind (wpAny_holding (wpAny_mono (wpN_any (q1 W1 s1 u p1.ok r1)) (fun o s2 ⟨W2, H2, it, ho, p2, q2⟩ => ?_) fun _ _ z => z.elim))
  subst ho
  refine wpAny_bind (wpAny_enterFrame p2.ok.lim hroom ?_)
  rw [hcl]
  refine wpAny_bind (wpAny_pure ?_)
  refine wpAny_bind (gen_code p2.ok hq hcd fun code s3 p3 => ?_)
  obtain ⟨bm, ob, b1, b2, b3, b4, b5, b6⟩ := p3.ok.bmod
  refine wpAny_bind (wpAny_builtinsFor (by rw [hg]; exact p3.ok.ns c.gns) b1 b2 b3 b4 b5 b6 ?_)
  have hcell' : ∀ y ∈ scope.names, y.2 ≠ NameKind.cell := fun y hy => by
    have := List.all_eq_true.mp hcell y hy
    simpa using this
  have hbinds : ∀ y ∈ ([((".0" : Str), Value.ref it)] : List (Str × Value)), scope.names.lookup y.1 = some NameKind.local := by
    intro y hy
    rcases List.mem_cons.mp hy with rfl | hy
    · exact h0
    · cases hy
  refine wpAny_bind (wpAny_newFunctionEnv hcell' hbinds (fun h' hn' hs' => ?_) hk)
  have e : (fun y : Str => ([((".0" : Str), Value.ref it)] : List (Str × Value)).reverse.lookup y) = fun y : Str => if y = (".0" : Str) then some (Value.ref it) else none := by
    funext y
    by_cases hy : y = ".0"
    · subst hy; simp
    · have : (y == (".0" : Str)) = false := by simpa using hy
      simp [List.lookup, this, hy]
  rw [e] at hn'
  obtain ⟨o, es, ep, g1, g2, g3, g4⟩ := hn'
  have hsz : h'.objs.size = s3.heap.objs.size + 1 := by rw [hs'.1, Heap.size_push]
  have k : ∀ b o, s3.heap.get? b = some o → h'.get? b = some o := fun b o e => hs'.extBut b o (Nat.ne_of_lt (Heap.lt_size e)) (Heap.get?_push_of_some _ e)
  have p4 := p3.ok.new (t := tC) (o := .loc (dot0 it)) (ob := o) (h' := h') (s3.toks + 1) k (by omega) g1 ⟨es, ep, g2, g3, fun x => by rw [g4 x]; unfold dot0; by_cases z : x = ".0" <;> simp [z, OV, VR]⟩ rfl
  simp only [newGenerator, newFields]
  refine wpAny_bind (wpAny_newGen (wpAny_bind (wpAny_mkText (wpAny_bind (wpAny_mkText (wpAny_newObj_type ?_ (by size_fits)))))))
  have p5 := p4.ok.newGen (t := tg) (P := P it s3.heap.objs.size h'.objs.size s3.gens.size) (gs := .fresh (.compStart (.GeneratorExp elt (⟨target, iter, [], 0⟩ :: rest) scope pos) 0 (.ref it) .none (genEnv scope [] s3.heap.objs.size code builtinsNs env))) (nm := .str "<genexpr>" (s3.toks + 1)) (qn := .str (env.qual ++ "<genexpr>") (s3.toks + 1 + 1)) (s3.toks + 1 + 1 + 1) rfl (hP _ _ _ _ _)
  have pp := ((p2.trans p3).trans p4).trans p5
  have hne : s3.heap.objs.size ≠ h'.objs.size := by omega
  have hH : H2 h'.objs.size = none := by
    have := p4.ok.fresh
    exact (upd_ne (Ne.symm hne)).symm.trans this
  exact ⟨W2, _, m1, .ref h'.objs.size, p1.trans (pp.x _), f1.keep pp, VR.ref', q2 _ _ _ p3.ok.fresh hH hne⟩)
end
end Nx
end
section
set_option autoImplicit false
namespace Nx
theorem sg_at {M : Model} {A : Around} {Φ : End → Shared → Prop} {cd : Code} {fs : List PySem.Frame} {s : Shared} {p' : Pos} {k : Unit → Sem Fin} (h : Sg M A Φ cd (k ()) fs s) : Sg M A Φ cd (.at p' k) fs s :=
  sg_wrap (m := standAt p') (K := k) (H := .raise) (gd := id) (lv := id) (wpAny_standAt h)
theorem Frame.dropped {gid : Nat} {H : AHeap} {a : Addr} (h : ∀ t o, H a = some (t, o) → t.own = gid) : Frame gid H (Nx.drop H a) := fun b t o hb n _ => drop_of (fun e => n (h t o (e ▸ hb))) hb
section
variable {c : Cx} {A : Around} {env : Env} {m m' : LM} {W W' : WM} {s s' : Shared} {H H' : AHeap}
theorem sg_agw {α β : Type} {R : WM → α → β → Prop} {Φ : End → Shared → Prop} {cd : Code} {fs : List PySem.Frame} {t : Sem α} {K : α → Sem Fin} {Hd : Value → Sem Fin} {gd : Bool → Bool} {lv : List Value → List Value} {Q : β → LM → AHeap → Prop}
    (hA : A.over cd fs = A.deeper env) (h : AG R false c (A.deeper env) env m H t Q (fun _ _ _ => False)) (ok : Ok c W s H) (fo : Fo c W s H env (A.deeper env) m)
    (k : ∀ W' s' m' H' x y, PostX c env.locals W s H W' s' H' → Fo c W' s' H' env (A.deeper env) m' → R W' x y → Q y m' H' → Sg c.M A Φ cd (K x) fs s') : Sg c.M A Φ cd (t.wrap K Hd gd lv) fs s := by
  refine sg_wrap ?_
  rw [hA]
  exact wpAny_mono (wpN_any (h W s ok fo)) (fun x s' ⟨W', H', m', y, p, fo', r, q⟩ => k W' s' m' H' x y p fo' r q) fun _ _ ⟨_, _, _, _, _, _, _, z⟩ => z.elim
/-- a start, then the loop -/
theorem sg_start {elt target iter : Expr} {rest : List Comprehension} {sc : Scope} {pos : Pos} {it d : Addr} {t : Tag} {i n ep : Nat} {Φ : End → Shared → Prop} (ok : Ok c W s H) (fo : Fo c W s H env (A.deeper env) m) (h : H it = some (t, .itm d i n ep))
    (k : ∀ W' s', PostX c env.locals W s H W' s' H → Fo c W' s' H env (A.deeper env) m → Sg c.M A Φ (.compLoop (.GeneratorExp elt (⟨target, iter, [], 0⟩ :: rest) sc pos) 0 (.ref it) .none env) (c.M.den (.compLoop (.GeneratorExp elt (⟨target, iter, [], 0⟩ :: rest) sc pos) 0 (.ref it) .none env)) [] s') :
    Sg c.M A Φ (.compStart (.GeneratorExp elt (⟨target, iter, [], 0⟩ :: rest) sc pos) 0 (.ref it) .none env) (c.M.den (.compStart (.GeneratorExp elt (⟨target, iter, [], 0⟩ :: rest) sc pos) 0 (.ref it) .none env)) [] s := by
  show Sg c.M A _ _ ((compStart (.GeneratorExp elt (⟨target, iter, [], 0⟩ :: rest) sc pos) 0 (.ref it) .none env).onRaise (leaving env)) [] s
  unfold compStart
  rw [Sem.onRaise_eq_wrap]
  show Sg c.M A _ _ ((ask >>= _).wrap _ _ _ _) [] s
  refine sg_bw (wpAny_askSetting ?_)
  split
  · exact sg_again rfl (k W s ((Post.refl ok).x _) fo)
  · refine sg_bw (wpAny_rule ?_)
    show Sg c.M A _ _ ((standAt iter.pos >>= _).wrap _ _ _ _) [] s
    refine sg_bw (wpAny_standAt ?_)
    refine sg_ag over_start (iter_itm h) ok fo ?_
    rintro W' s' m' H' x y p f r ⟨rfl, rfl, rfl⟩
    obtain rfl : x = .ref it := r
    exact sg_again rfl (k W' s' p f)
end
end Nx
end
section
set_option autoImplicit false
namespace Nx
abbrev tgG (sid : Nat) : Tag := ⟨sid, 0, []⟩
abbrev tgC (sid : Nat) : Tag := ⟨sid, 1, []⟩
abbrev tgI (sid : Nat) : Tag := ⟨sid, 2, []⟩
abbrev tgT (sid : Nat) : Tag := ⟨sid, 3, []⟩
abbrev tgD (sid : Nat) : Tag := ⟨sid, 4, []⟩
abbrev tgJ (sid : Nat) : Tag := ⟨sid, 5, []⟩
theorem ne_tag {H : AHeap} {a b : Addr} {t t' : Tag} {o o' : AObj} (ha : H a = some (t, o)) (hb : H b = some (t', o')) (h : t ≠ t') : a ≠ b := fun e => by
  rw [e, hb] at ha; cases ha; exact h rfl
theorem ne_new {H : AHeap} {a b : Addr} {x : Tag × AObj} (ha : H a = none) (hb : H b = some x) : b ≠ a := fun e => by
  rw [e, ha] at hb; cases hb
/-- a generator that sleeps in its loop -/
def AtLoop (e : Expr) (It : Addr) (env : Env) (gs : GenState) : Prop := ∃ k l p cl, gs = .suspended k l (.compLoop e 0 (.ref It) .none env) p [] cl ∧ k (.send .none) = .pure (.again (.compLoop e 0 (.ref It) .none env))
def AtStart (e : Expr) (It : Addr) (env : Env) (gs : GenState) : Prop := gs = .fresh (.compStart e 0 (.ref It) .none env)
section
variable {c : Cx} {A : Around} {env : Env} {m m' : LM} {W W' : WM} {s s' : Shared} {H H' : AHeap}
/-- ((n, d.copy()) for n, d in a dict of dicts): what stands between the turns -/
def NInv (sid : Nat) (C It dN : Addr) (l : List (Int × AV)) (ob : Obj) (tN : Tag) (Fa : AHeap → Prop) (i : Nat) (H : AHeap) : Prop :=
  (∃ m, H C = some (tgC sid, .loc m)) ∧ H It = some (tgI sid, .itm dN i l.length (epOf ob)) ∧ H dN = some (tN, .pin ob (.dI l)) ∧ Fa H
/-- what it hands out -/
def nOut (es : List (Int × List (Str × Int))) (sid : Nat) (i : Nat) (x : AV) (H : AHeap) : Prop := ∃ (n : Int) (more : List (Str × Int)) (dd : Addr), es[i]? = some (n, more) ∧ x = .tup [.int n, .ref dd] ∧ H dd = some (tgD sid, .dS (nums more))
theorem refs_get {f : Int → Addr} {es : List (Int × List (Str × Int))} {i : Nat} {n : Int} {more : List (Str × Int)} (h : es[i]? = some (n, more)) : (refs f (es.map (·.1)))[i]? = some (n, .ref (f n)) := by
  unfold refs
  rw [List.getElem?_map, List.getElem?_map, h]; rfl
theorem nodes_turn {iter : Expr} {sc : Scope} {pos p1 p2 p3 p4 p5 p6 p7 p8 : Pos} {k1 k2 : Nat} {e : Expr} (he : e = .GeneratorExp (.Tuple [.Name "n" p4, .Call (.Attribute (.Name "d" p5) "copy" p6) [] [] p7] k2 p8) [⟨.Tuple [.Name "n" p1, .Name "d" p2] k1 p3, iter, [], 0⟩] sc pos)
    {sid gi : Nat} {a C It dN : Addr} {tN : Tag} {ob : Obj} {es : List (Int × List (Str × Int))} {f : Int → Addr} {Fa : AHeap → Prop} (hE : GEnv env C) (hn : env.kindOf "n" = some .local) (hd : env.kindOf "d" = some .local)
    (htN : tN.own ≠ sid) (hs0 : sid ≠ xo) (htN0 : tN.own ≠ xo) (hF : ∀ H H', Fa H → Frame sid H H' → Fa H')
    (hFd : ∀ (H : AHeap) (i : Nat) (n : Int) (more : List (Str × Int)), Fa H → es[i]? = some (n, more) → ∃ td, H (f n) = some (td, .dS (nums more)) ∧ td.own ≠ sid ∧ td.own ≠ xo)
    (hcopy : MCallA env (.Name "d" p5) "copy" p6 [] p7)
    {W0 : WM} {s0 : Shared} {m0 : LM} {i : Nat} {nn : Int} {more : List (Str × Int)} (rm : Rm A 1) (hi : es[i]? = some (nn, more)) (ha : H a = some (tgG sid, anyGen gi)) (hC : H C = some (tgC sid, .loc m0)) (hInv : NInv sid C It dN (refs f (es.map (·.1))) ob tN Fa i H)
    (p0 : PostX c env.locals W0 s0 (Nx.drop H C) W s (Nx.drop H C)) (fo : Fo c W s (Nx.drop H C) env (A.deeper env) m) (L : GenState → Prop) (hL : ∀ gs', AtLoop e It env gs' → L gs') :
    Sg c.M A (fun e' s' => e'.quiet = true ∧ ∃ v g l k cd p fs, e' = .susp v g l k cd p fs ∧ ∃ W' H' x, Post c W0 s0 H W' s' H' ∧ H' a = some (tgG sid, anyGen gi) ∧ Frame sid H H' ∧ VR W' v x ∧ nOut es sid i x H' ∧ NInv sid C It dN (refs f (es.map (·.1))) ob tN Fa (i + 1) H' ∧ L e'.genState)
      (.compLoop e 0 (.ref It) .none env) (c.M.den (.compLoop e 0 (.ref It) .none env)) [] s := by
  obtain ⟨_, hIt, hdN, hFH⟩ := hInv
  have nIC : It ≠ C := ne_tag hIt hC (by simp)
  have nNC : dN ≠ C := ne_tag hdN hC (fun q => htN (by rw [q]))
  have naC : a ≠ C := ne_tag ha hC (by simp)
  have hIt1 : Nx.drop H C It = _ := drop_of nIC hIt
  have hdN1 : Nx.drop H C dN = _ := drop_of nNC hdN
  have ha1 : Nx.drop H C a = _ := drop_of naC ha
  have f1 : Frame sid H (Nx.drop H C) := Frame.dropped fun t o q => by rw [hC] at q; cases q; rfl
  obtain ⟨td, hfd, htd, htd0⟩ := hFd _ _ _ _ hFH hi
  have hcalm : Calm (A.deeper env) H := .inl rm.h
  subst he
  show Sg c.M A _ _ ((compTurn (.GeneratorExp _ [⟨.Tuple [.Name "n" p1, .Name "d" p2] k1 p3, iter, [], 0⟩] sc pos) 0 (.ref It) .none env).onRaise (leaving env)) [] s
  rw [compTurn_gen, Sem.onRaise_eq_wrap]
  refine sg_bw (wpAny_standAt ?_)
  refine sg_ag over_loop (ag_item (tgT sid) hIt1 hdN1 (refs_get hi)) p0.ok fo ?_
  rintro W1 s1 m1 H1 x y q1 fo1 r1 ⟨rfl, ta, hta, rfl, rfl⟩
  obtain ⟨u, rfl, r1⟩ := (show OV W1 x (some (.ref ta)) from r1).some
  obtain rfl : u = .ref ta := r1
  have nIta : It ≠ ta := ne_new hta hIt1
  have f2 : Frame sid (Nx.drop H C) (upd (upd (Nx.drop H C) It (tgI sid, .itmo dN (i + 1) (refs f (es.map (·.1))).length (epOf ob) ta)) ta (tgT sid, .otup [.int nn, .ref (f nn)])) :=
    (Frame.upd fun t o q => by rw [hIt1] at q; cases q; rfl).trans (Frame.new ((upd_ne (Ne.symm nIta)).trans hta))
  refine sg_ag over_loop (ag_go (upd_of nIta upd_same)) q1.ok fo1 ?_
  rintro W2 s2 m2 H2 x y q2 fo2 r2 ⟨rfl, rfl⟩
  have f3 := f2.trans (Frame.upd (gid := sid) (a := It) (x := (tgI sid, .itm dN (i + 1) (refs f (es.map (·.1))).length (epOf ob))) fun t o q => by rw [upd_of nIta upd_same] at q; cases q; rfl)
  generalize hH3 : upd (upd (upd (Nx.drop H C) It (tgI sid, .itmo dN (i + 1) (refs f (es.map (·.1))).length (epOf ob) ta)) ta (tgT sid, .otup [.int nn, .ref (f nn)])) It (tgI sid, .itm dN (i + 1) (refs f (es.map (·.1))).length (epOf ob)) = H3 at q2 fo2 f3
  have hta3 : H3 ta = some (tgT sid, .otup [.int nn, .ref (f nn)]) := by rw [← hH3]; exact upd_of (Ne.symm nIta) upd_same
  have hIt3 : H3 It = some (tgI sid, .itm dN (i + 1) (refs f (es.map (·.1))).length (epOf ob)) := by rw [← hH3]; exact upd_same
  have hdN3 : H3 dN = _ := f3 _ _ _ hdN1 htN htN0
  have ha3 : H3 a = some (tgG sid, anyGen gi) := by
    rw [← hH3]
    have n1 : a ≠ It := ne_tag ha1 hIt1 (by simp)
    exact upd_of n1 (upd_of (ne_new hta ha1) (upd_of n1 ha1))
  have hC3 : H3 C = none := by
    rw [← hH3]
    rw [upd_ne (Ne.symm nIC), upd_ne, upd_ne (Ne.symm nIC)]
    · simp [Nx.drop]
    · rintro rfl
      exact absurd fo1.un (by rw [hE.loc, upd_same]; exact fun z => nomatch z)
  refine sg_ag over_loop (ag_unpack (names := ["n", "d"]) (unp_otup (.inl rm.h) hta3) (.cons (.cons .nil)) rfl (by intro y hy; rcases List.mem_cons.mp hy with rfl | hy; exact hn; rcases List.mem_cons.mp hy with rfl | hy; exact hd; cases hy) hE.kind) q2.ok fo2 ?_
  rintro W3 s3 m3 H4 x y q3 fo3 r3 ⟨rfl, rfl⟩
  have hfd4 : H4 (f nn) = some (td, .dS (nums more)) := f3 _ _ _ (drop_of (ne_tag hfd hC (fun q => htd (by rw [q]))) hfd) htd htd0
  simp only [forIn, List.forIn_nil]
  refine sg_bw (wpAny_pure ?_)
  simp only [if_true]
  have hy : ∀ v, yieldOut env v = yieldValue v := fun v => by simp only [yieldOut, hE.co, Bool.false_eq_true, if_false]
  simp only [hy]
  rw [Sem.bind_eq_wrap', Sem.bind_eq_wrap', Sem.wrap_wrap, Sem.wrap_wrap]
  have helt : AE false c (A.deeper env) env (setms m2 [("n", .int nn), ("d", .ref (f nn))]) H4 (.Tuple [.Name "n" p4, .Call (.Attribute (.Name "d" p5) "copy" p6) [] [] p7] k2 p8) (fun v m' H' => m' = setms m2 [("n", .int nn), ("d", .ref (f nn))] ∧ ∃ dd, H4 dd = none ∧ v = .tup [.int nn, .ref dd] ∧ H' = upd H4 dd (tgD sid, .dS (nums more))) (fun _ _ _ => False) := by
    refine ae_tuple (al_cons (ae_pe (pe_name rfl hE.kind hn) (al_cons (ae_bmeth F.slot_dict_copy F.plainAttrs_dict F.type_dict_copy (a := .ref (f nn)) (pe_name rfl hE.kind hd) (plainly_dS hfd4) (al_nil ?_) rfl hcopy))))
    · refine CallOk.mono (call_copy (tgD sid) hfd4) ?_ fun _ _ z => z
      rintro v H' ⟨dd, hdd, rfl, rfl⟩
      exact al_nil ⟨by simp, rfl, dd, hdd, rfl, rfl⟩
  refine sg_agw over_loop helt.ag q3.ok fo3 ?_
  rintro W4 s4 m4 H5 x y q4 fo4 r4 ⟨rfl, dd, hdd, rfl, rfl⟩
  have hC5 : upd H4 dd (tgD sid, .dS (nums more)) C = none := by rw [← hE.loc]; exact fo4.un
  have px : PostX c env.locals W0 s0 (Nx.drop H C) W4 s4 (upd H4 dd (tgD sid, .dS (nums more))) := ((((p0.trans q1).trans q2).trans q3).trans q4)
  have pp := asleep hE hC px fo4
  have f5 : Frame sid H (upd (upd H4 dd (tgD sid, .dS (nums more))) C (tgC sid, .loc (setms m2 [("n", .int nn), ("d", .ref (f nn))]))) := ((f1.trans f3).trans (Frame.new hdd)).trans (Frame.new hC5)
  refine sg_at (sg_yield rfl fun p => ⟨rfl, _, _, _, _, _, _, _, rfl, W4, _, _, pp, ?_, f5, r4, ⟨nn, more, dd, hi, rfl, ?_⟩, ⟨⟨_, upd_same⟩, ?_, f5 _ _ _ hdN htN htN0, hF _ _ hFH f5⟩, hL _ ⟨_, _, _, _, rfl, rfl⟩⟩)
  · exact upd_new hC5 (upd_new hdd ha3)
  · exact upd_new hC5 upd_same
  · exact upd_new hC5 (upd_new hdd hIt3)
end
end Nx
end
section
set_option autoImplicit false
namespace Nx
section
variable {c : Cx} {A : Around} {env : Env} {m m' : LM} {W W' : WM} {s s' : Shared} {H H' : AHeap}
theorem nodes_end {elt iter : Expr} {sc : Scope} {pos p1 p2 p3 : Pos} {k1 : Nat} {e : Expr} (he : e = .GeneratorExp elt [⟨.Tuple [.Name "n" p1, .Name "d" p2] k1 p3, iter, [], 0⟩] sc pos)
    {sid gi : Nat} {a C It dN : Addr} {tN : Tag} {ob : Obj} {l : List (Int × AV)} {Fa : AHeap → Prop} (hE : GEnv env C) (htN : tN.own ≠ sid)
    {W0 : WM} {s0 : Shared} {m0 : LM} (rm : Rm A 1) (ha : H a = some (tgG sid, anyGen gi)) (hC : H C = some (tgC sid, .loc m0)) (hInv : NInv sid C It dN l ob tN Fa l.length H)
    (p0 : PostX c env.locals W0 s0 (Nx.drop H C) W s (Nx.drop H C)) (fo : Fo c W s (Nx.drop H C) env (A.deeper env) m) :
    Sg c.M A (fun e' s' => e' = .ret (.ok .next) ∧ ∃ W' H', Post c W0 s0 H W' s' H' ∧ H' a = some (tgG sid, anyGen gi) ∧ Frame sid H H')
      (.compLoop e 0 (.ref It) .none env) (c.M.den (.compLoop e 0 (.ref It) .none env)) [] s := by
  obtain ⟨_, hIt, hdN, hFH⟩ := hInv
  have nIC : It ≠ C := ne_tag hIt hC (by simp)
  have nNC : dN ≠ C := ne_tag hdN hC (fun q => htN (by rw [q]))
  have naC : a ≠ C := ne_tag ha hC (by simp)
  have naI : a ≠ It := ne_tag ha hIt (by simp)
  have hIt1 : Nx.drop H C It = _ := drop_of nIC hIt
  have hdN1 : Nx.drop H C dN = _ := drop_of nNC hdN
  have f1 : Frame sid H (Nx.drop H C) := Frame.dropped fun t o q => by rw [hC] at q; cases q; rfl
  subst he
  show Sg c.M A _ _ ((compTurn (.GeneratorExp elt [⟨.Tuple [.Name "n" p1, .Name "d" p2] k1 p3, iter, [], 0⟩] sc pos) 0 (.ref It) .none env).onRaise (leaving env)) [] s
  rw [compTurn_gen, Sem.onRaise_eq_wrap]
  refine sg_bw (wpAny_standAt ?_)
  refine sg_ag over_loop (ag_items_end (A := A.deeper env) rm.h hIt1 hdN1 (by simp)) p0.ok fo ?_
  rintro W1 s1 m1 H1 x y q1 fo1 r1 ⟨rfl, rfl, rfl⟩
  obtain rfl := (show OV W1 x none from r1).none
  have hC1 : Nx.drop (Nx.drop H C) It C = none := drop_none (by simp [Nx.drop])
  refine sg_end (.ok .next) ⟨rfl, W1, _, asleep hE hC (p0.trans q1) fo1, upd_new hC1 (drop_of naI (drop_of naC ha)), (f1.trans (Frame.dropped fun t o q => by rw [hIt1] at q; cases q; rfl)).trans (Frame.new hC1)⟩
theorem nodes_life {iter : Expr} {sc : Scope} {pos p1 p2 p3 p4 p5 p6 p7 p8 : Pos} {k1 k2 : Nat} {e : Expr} (he : e = .GeneratorExp (.Tuple [.Name "n" p4, .Call (.Attribute (.Name "d" p5) "copy" p6) [] [] p7] k2 p8) [⟨.Tuple [.Name "n" p1, .Name "d" p2] k1 p3, iter, [], 0⟩] sc pos)
    {sid gi : Nat} {a C It dN : Addr} {tN : Tag} {ob : Obj} {es : List (Int × List (Str × Int))} {f : Int → Addr} {Fa : AHeap → Prop} (hE : GEnv env C) (hn : env.kindOf "n" = some .local) (hd : env.kindOf "d" = some .local)
    (htN : tN.own ≠ sid) (hs0 : sid ≠ xo) (htN0 : tN.own ≠ xo) (hF : ∀ H H', Fa H → Frame sid H H' → Fa H')
    (hFd : ∀ (H : AHeap) (i : Nat) (n : Int) (more : List (Str × Int)), Fa H → es[i]? = some (n, more) → ∃ td, H (f n) = some (td, .dS (nums more)) ∧ td.own ≠ sid ∧ td.own ≠ xo)
    (hcopy : MCallA env (.Name "d" p5) "copy" p6 [] p7) :
    ∀ n i gs, n + i = es.length → (AtStart e It env gs ∨ AtLoop e It env gs) → GLife c 1 a (tgG sid) gi sid (NInv sid C It dN (refs f (es.map (·.1))) ob tN Fa) (nOut es sid) n i gs := by
  have hlen : (refs f (es.map (·.1))).length = es.length := by rw [refs_length, List.length_map]
  intro n
  induction n with
  | zero =>
    intro i gs hi hgs A W s H fs rm ok hA ff ha hInv
    obtain ⟨⟨m, hC⟩, hIt, hdN, hFH⟩ := id hInv
    obtain ⟨ok1, fo1⟩ := wake ok hE hC hA ff
    have hInv' : NInv sid C It dN (refs f (es.map (·.1))) ob tN Fa (refs f (es.map (·.1))).length H := by
      have : i = (refs f (es.map (·.1))).length := by omega
      rw [← this]; exact hInv
    rcases hgs with rfl | ⟨k, l, p, cl, rfl, hk⟩
    · have hIt1 : Nx.drop H C It = _ := drop_of (ne_tag hIt hC (by simp)) hIt
      have := sg_start (Φ := fun e' s' => e' = .ret (.ok .next) ∧ ∃ W' H', Post c W s H W' s' H' ∧ H' a = some (tgG sid, anyGen gi) ∧ Frame sid H H') (elt := (.Tuple [.Name "n" p4, .Call (.Attribute (.Name "d" p5) "copy" p6) [] [] p7] k2 p8)) (target := .Tuple [.Name "n" p1, .Name "d" p2] k1 p3) (iter := iter) (rest := []) (sc := sc) (pos := pos) ok1 fo1 hIt1 fun W' s' q fo' => by
        have := nodes_end he hE htN rm ha hC hInv' q fo'
        rw [he] at this
        exact this
      rw [← he] at this
      exact this
    · show Sg _ _ _ _ (k (.send .none)) [] s
      rw [hk]
      exact sg_again (by subst he; rfl) (nodes_end he hE htN rm ha hC hInv' ((Post.refl ok1).x _) fo1)
  | succ n ih =>
    intro i gs hi hgs A W s H fs rm ok hA ff ha hInv
    obtain ⟨⟨m, hC⟩, hIt, hdN, hFH⟩ := id hInv
    obtain ⟨ok1, fo1⟩ := wake ok hE hC hA ff
    obtain ⟨⟨nn, more⟩, hes⟩ : ∃ x, es[i]? = some x := ⟨es[i]'(by omega), List.getElem?_eq_getElem _⟩
    have hL : ∀ gs', AtLoop e It env gs' → GLife c 1 a (tgG sid) gi sid (NInv sid C It dN (refs f (es.map (·.1))) ob tN Fa) (nOut es sid) n (i + 1) gs' := fun gs' h => ih (i + 1) gs' (by omega) (.inr h)
    rcases hgs with rfl | ⟨k, l, p, cl, rfl, hk⟩
    · have hIt1 : Nx.drop H C It = _ := drop_of (ne_tag hIt hC (by simp)) hIt
      have := sg_start (Φ := fun e' s' => e'.quiet = true ∧ ∃ v g l k cd p fs, e' = .susp v g l k cd p fs ∧ ∃ W' H' x, Post c W s H W' s' H' ∧ H' a = some (tgG sid, anyGen gi) ∧ Frame sid H H' ∧ VR W' v x ∧ nOut es sid i x H' ∧ NInv sid C It dN (refs f (es.map (·.1))) ob tN Fa (i + 1) H' ∧ GLife c 1 a (tgG sid) gi sid (NInv sid C It dN (refs f (es.map (·.1))) ob tN Fa) (nOut es sid) n (i + 1) e'.genState)
        (elt := (.Tuple [.Name "n" p4, .Call (.Attribute (.Name "d" p5) "copy" p6) [] [] p7] k2 p8)) (target := .Tuple [.Name "n" p1, .Name "d" p2] k1 p3) (iter := iter) (rest := []) (sc := sc) (pos := pos) ok1 fo1 hIt1 fun W' s' q fo' => by
        have := nodes_turn he hE hn hd htN hs0 htN0 hF hFd hcopy rm hes ha hC hInv q fo' _ hL
        rw [he] at this
        exact this
      rw [← he] at this
      exact this
    · show Sg _ _ _ _ (k (.send .none)) [] s
      rw [hk]
      exact sg_again (by subst he; rfl) (nodes_turn he hE hn hd htN hs0 htN0 hF hFd hcopy rm hes ha hC hInv ((Post.refl ok1).x _) fo1 _ hL)
end
end Nx
end
section
set_option autoImplicit false
namespace Nx
/-! ### a generator's life, over any states -/
def GLifeS {σ : Type} (c : Cx) (R : Nat) (a : Addr) (t : Tag) (gi sid : Nat) (I : σ → AHeap → Prop) (item : Nat → AV → AHeap → Prop) : Nat → Nat → σ → GenState → Prop
  | 0, _, x => fun gs => ∀ A W s H fs, Rm A R → Ok c W s H → A.frames = some fs → FF c W s.heap H fs → H a = some (t, anyGen gi) → I x H →
      GoP c.M A (fun e s' => e = .ret (.ok .next) ∧ ∃ W' H', Post c W s H W' s' H' ∧ H' a = some (t, anyGen gi) ∧ Frame sid H H') s gs
  | n + 1, i, x => fun gs => ∀ A W s H fs, Rm A R → Ok c W s H → A.frames = some fs → FF c W s.heap H fs → H a = some (t, anyGen gi) → I x H →
      GoP c.M A (fun e s' => e.quiet = true ∧ ∃ v g l k cd p fs, e = .susp v g l k cd p fs ∧ ∃ W' H' y x', Post c W s H W' s' H' ∧ H' a = some (t, anyGen gi) ∧ Frame sid H H' ∧ VR W' v y ∧ item i y H' ∧ I x' H' ∧ GLifeS c R a t gi sid I item n (i + 1) x' e.genState) s gs
theorem src_genS {σ : Type} {c : Cx} {k gid sid n R gi : Nat} {a : Addr} {t : Tag} {I : σ → AHeap → Prop} {item : Nat → AV → AHeap → Prop} (ht : t.own = sid) (hs : sid ≠ gid) (hs0 : sid ≠ xo) (hR : R + 1 ≤ k)
    (hI : ∀ x H P, I x H → H a = some (t, anyGen gi) ∨ (∃ P, H a = some (t, .gen gi P)) → I x (upd H a (t, .gen gi P))) (hit : ∀ i y H P, item i y H → H a = some (t, anyGen gi) → item i y (upd H a (t, .gen gi P)))
    (hst : ∀ x H H', I x H → Frame gid H H' → I x H') :
    Src c k gid sid a n item (fun i H => ∃ x, H a = some (t, .gen gi (GLifeS c R a t gi sid I item (n - i) i x)) ∧ I x H) where
  step A i H rm hi := fun ⟨x0, h1, h2⟩ => by
    have rm1 : Rm A.in1 R := (rm.less hR).in1
    refine next_gen rm.h rm.room h1 fun gs W s fs hp ok hA ff => ?_
    obtain ⟨m, hm⟩ : ∃ m, n - i = m + 1 := ⟨n - i - 1, by omega⟩
    rw [hm] at hp
    refine (hp A.in1 W s _ fs rm1 ok hA ff upd_same (hI x0 H _ h2 (.inr ⟨_, h1⟩))).mono ?_
    rintro e s' ⟨hq, v, g, l, kk, cd, p, fs', rfl, W', H', y, x', p1, h3, f1, r, hx, hI', hl⟩
    refine ⟨hq, W', H', p1, h3, y, _, r, hl, y, rfl, hit _ _ _ _ hx h3, ⟨x', ?_, hI _ _ _ hI' (.inl h3)⟩, ?_⟩
    · rw [show n - (i + 1) = m from by omega]; exact upd_same
    · exact ((Frame.upd (fun t' o q => by rw [h1] at q; cases q; exact ht)).trans f1).trans (Frame.upd fun t' o q => by rw [h3] at q; cases q; exact ht)
  fin A H rm := fun ⟨x0, h1, h2⟩ => by
    have rm1 : Rm A.in1 R := (rm.less hR).in1
    refine next_gen rm.h rm.room h1 fun gs W s fs hp ok hA ff => ?_
    rw [Nat.sub_self] at hp
    refine (hp A.in1 W s _ fs rm1 ok hA ff upd_same (hI x0 H _ h2 (.inr ⟨_, h1⟩))).mono ?_
    rintro e s' ⟨rfl, W', H', p1, h3, f1⟩
    exact ⟨rfl, W', H', p1, h3, rfl, (Frame.upd (fun t' o q => by rw [h1] at q; cases q; exact ht)).trans f1⟩
  stab i H H' := fun ⟨x0, h1, h2⟩ f => ⟨x0, f _ _ _ h1 (by rw [ht]; exact hs) (by rw [ht]; exact hs0), hst _ _ _ h2 f⟩

section
variable {nf : Bool} {c : Cx} {A : Around} {env : Env} {m m' : LM} {W W' : WM} {s s' : Shared} {H H' : AHeap} {E : AV → LM → AHeap → Prop}
/-! ### a graph's dicts pinned, all at once -/
def pinG (gid : Nat) (obs : Addr → Obj) (H : AHeap) : AHeap := fun a => match H a with
  | some (t, .dI l) => if t.own = gid then some (t, .pin (obs a) (.dI l)) else some (t, .dI l)
  | x => x
def unpinG (gid : Nat) (H : AHeap) : AHeap := fun a => match H a with
  | some (t, .pin o (.dI l)) => if t.own = gid then some (t, .dI l) else some (t, .pin o (.dI l))
  | x => x
theorem Ok.told (ok : Ok c W s H) (hd : ∀ b, H' b = none ↔ H b = none) (hr : ∀ b t o, H' b = some (t, o) → ∃ o', H b = some (t, o') ∧ (o = o' ∨ o.isGen = false ∧ ∀ ob, s.heap.get? b = some ob → OR c W ob o' → OR c W ob o)) : Post c W s H W s H' := by
  refine ⟨⟨ok.old, ok.stat, ok.os, ok.bare, ok.low, fun b u x hx => ?_, ok.gen.sub fun b u gi P hx => ?_, fun b v hv => ?_⟩, Ext.refl W, fun b ob g _ _ _ => ⟨ob.slots, g⟩, Nat.le_refl _, fun b hb => ?_, fun _ h => .inl h⟩
  · obtain ⟨o', h1, h2⟩ := hr b u x hx
    obtain ⟨hB, ob, g, r⟩ := ok.own b u o' h1
    rcases h2 with rfl | ⟨_, h2⟩
    · exact ⟨hB, ob, g, r⟩
    · exact ⟨hB, ob, g, h2 ob g r⟩
  · obtain ⟨o', h1, h2⟩ := hr b u _ hx
    rcases h2 with rfl | ⟨h2, _⟩
    · exact h1
    · cases h2
  · obtain ⟨h1, h2, h3⟩ := ok.frz b v hv
    exact ⟨h1, (hd b).mpr h2, h3⟩
  · exact .inl fun q => hb ((hd b).mpr q)
theorem AG.told {α β : Type} {R : WM → α → β → Prop} {t : Sem α} {Q : β → LM → AHeap → Prop} (hp : ∀ W s, Ok c W s H → ∃ H', Post c W s H W s H' ∧ AG R nf c A env m H' t Q E) : AG R nf c A env m H t Q E := fun W s ok fo => by
  obtain ⟨H', p, h⟩ := hp W s ok
  exact G.from (p.x _) (h W s p.ok (fo.keep p))
theorem AS.pinG {ss : List Stmt} {Q : AFl → LM → AHeap → Prop} (gid : Nat) (h : ∀ obs, AS nf c A env m (pinG gid obs H) ss Q E) : AS nf c A env m H ss Q E := .mk <| AG.told fun W s ok => by
  refine ⟨Nx.pinG gid (fun a => (s.heap.get? a).getD default) H, ok.told (fun b => ?_) (fun b t o hb => ?_), (h _).ag⟩
  · unfold Nx.pinG
    split
    · rename_i t l e
      rw [e]
      split <;> simp
    · exact Iff.rfl
  · unfold Nx.pinG at hb
    split at hb
    · rename_i t' l e
      split at hb
      · cases hb
        refine ⟨_, e, .inr ⟨rfl, fun ob g r => ?_⟩⟩
        have e2 : (s.heap.get? b).getD default = ob := by rw [g]; rfl
        exact ⟨e2.symm, by show OR c W ((s.heap.get? b).getD default) _; rw [e2]; exact r⟩
      · cases hb; exact ⟨_, e, .inl rfl⟩
    · exact ⟨o, hb, .inl rfl⟩
theorem AS.unpinG {ss : List Stmt} {Q : AFl → LM → AHeap → Prop} (gid : Nat) (h : AS nf c A env m (unpinG gid H) ss Q E) : AS nf c A env m H ss Q E := .mk <| AG.told fun W s ok => by
  refine ⟨Nx.unpinG gid H, ok.told (fun b => ?_) (fun b t o hb => ?_), h.ag⟩
  · unfold Nx.unpinG
    split
    · rename_i t o l e
      rw [e]
      split <;> simp
    · exact Iff.rfl
  · unfold Nx.unpinG at hb
    split at hb
    · rename_i t' o' l e
      split at hb
      · cases hb
        exact ⟨_, e, .inr ⟨rfl, fun ob g ⟨h1, r⟩ => h1 ▸ r⟩⟩
      · cases hb; exact ⟨_, e, .inl rfl⟩
    · exact ⟨o, hb, .inl rfl⟩
/-! ### such dicts, read -/
theorem plainly_pin {d : Addr} {t : Tag} {ob : Obj} {l : List (Int × AV)} (hd : H d = some (t, .pin ob (.dI l))) : Plainly c H (.ref d) "dict" := fun W s u ok r => by
  obtain rfl : u = .ref d := r
  obtain ⟨o, g, rfl, kvs, D, _⟩ := ok.get hd
  exact ⟨(Heap.dictOf_iff.mpr ⟨_, g, D⟩ : Heap.DictOf (intKind c.prog c.w) s.heap d kvs).mapOf.typeIs, (plainly_dict (Heap.dictOf_iff.mpr ⟨_, g, D⟩)).2⟩
theorem call_items_pin (t : Tag) {d : Addr} {t' : Tag} {ob : Obj} {l : List (Int × AV)} {E : AV → AHeap → Prop} (hd : H d = some (t', .pin ob (.dI l))) : CallOk nf c A H (.builtin "dict.items") [.ref d] [] (fun r H' => ∃ v, H v = none ∧ r = .ref v ∧ H' = upd H v (t, viewOf d)) E := .of fun W s vs ok hv => by
  cases hv with | cons r1 hv => cases hv with | nil =>
  rename_i u
  obtain rfl : u = .ref d := r1
  obtain ⟨o, g, rfl, kvs, D, _⟩ := ok.get hd
  have D : Heap.DictOf (intKind c.prog c.w) s.heap d kvs := Heap.dictOf_iff.mpr ⟨_, g, D⟩
  refine code_meets F.slot_dict_items D.mapOf.typeIs F.entry_dict_items (F.args_dict_items_1 _) (meets_dict_items (intKind c.prog c.w) d (c.noMods (ok.own _ _ _ hd).1)) ⟨⟨_, D⟩, ?_⟩
  exact ⟨W, _, _, ok.alloc (t := t) s.toks (OR.rcd' (vs := [.ref d]) rfl rfl (.cons VR.ref' .nil)) rfl rfl, VR.ref', _, ok.fresh, rfl, rfl⟩
theorem iter_items_pin {v d : Addr} {t' t2 : Tag} (t : Tag) {ob : Obj} {l : List (Int × AV)} (hv : H v = some (t2, viewOf d)) (hd : H d = some (t', .pin ob (.dI l))) : IterOk nf c A H (.ref v) (fun it H' => H it = none ∧ H' = upd H it (t, .itm d 0 l.length (epOf ob))) := fun W s u ok r => by
  obtain rfl : u = .ref v := r
  obtain ⟨o, vs, g, hc, hdat, r⟩ := ok.rcd hv
  cases r with | cons r1 r => cases r with | nil =>
  obtain rfl : _ = Value.ref d := r1
  obtain ⟨kvs, D, kv⟩ := ok.pinned hd
  have hl := kv.length
  refine wpN_of (wpAny_pyIter_items ⟨o, g, hc, hdat⟩ D ?_)
  rw [hl]
  have p2 := ok.alloc (t := t) (o := .itm d 0 l.length (epOf ob)) (ob := { cls := .type "dict_itemiterator", data := .fields #[.none, .bool false, .ref d, .int 0 0, .int l.length 0, .int (epOf ob) 0, .none, .none] }) s.toks ⟨_, _, rfl⟩ rfl rfl
  exact ⟨W, _, _, rfl, p2, ok.fresh, rfl⟩
theorem ag_iter {v : AV} {u : Value} {P : Addr → AHeap → Prop} (h : IterOk nf c A H v P) (r : ∀ W, VR W u v) : AG VR nf c A env m H (pyIter u) (fun y m' H' => m' = m ∧ ∃ it, y = .ref it ∧ P it H') E := fun W s ok fo =>
  wpN_mono (h W s u ok (r W)) (fun o s' ⟨W', H', it, e, p, q⟩ => ⟨W', H', m, .ref it, p.x _, fo.keep p, e, rfl, it, rfl, q⟩) fun _ _ z => z.elim
end
/-- two clauses: the outer, the inner -/
theorem compTurn_out (elt t0 t1 i0 i1 : Expr) (sc : Scope) (pos : Pos) (it acc : Value) (env : Env) :
    compTurn (.GeneratorExp elt [⟨t0, i0, [], 0⟩, ⟨t1, i1, [], 0⟩] sc pos) 0 it acc env = (do
      standAt i0.pos
      match ← pyNext it with
      | none => pure (.done .next)
      | some v =>
        letOwnedTupleGo t0 it v
        assign t0 env v
        let x ← eval i1 env
        standAt i1.pos
        let x ← foldedSetIterable i1 env x
        let it2 ← holding [x] (pyIter x)
        let _ ← runOwn (.compStart (.GeneratorExp elt [⟨t0, i0, [], 0⟩, ⟨t1, i1, [], 0⟩] sc pos) 1 it2 acc env) env
        again (.compLoop (.GeneratorExp elt [⟨t0, i0, [], 0⟩, ⟨t1, i1, [], 0⟩] sc pos) 0 it acc env)) := by rfl
theorem compTurn_in (elt t0 t1 i0 i1 : Expr) (sc : Scope) (pos : Pos) (it acc : Value) (env : Env) :
    compTurn (.GeneratorExp elt [⟨t0, i0, [], 0⟩, ⟨t1, i1, [], 0⟩] sc pos) 1 it acc env = (do
      standAt i1.pos
      match ← pyNext it with
      | none => pure (.done .next)
      | some v =>
        letOwnedTupleGo t1 it v
        assign t1 env v
        (do let v ← eval elt env; standAt elt.pos; let _ ← yieldOut env v)
        again (.compLoop (.GeneratorExp elt [⟨t0, i0, [], 0⟩, ⟨t1, i1, [], 0⟩] sc pos) 1 it acc env)) := by rfl
end Nx
end
section
set_option autoImplicit false
namespace Nx
abbrev URow := Int × List (Int × List (Str × Int))
abbrev ERow' := Int × Int × List (Str × Int)
def rowOf (u : Int) (r : List (Int × List (Str × Int))) : List ERow' := r.map fun p => (u, p.1, p.2)
def flat (rows : List URow) : List ERow' := rows.flatMap fun x => rowOf x.1 x.2
/-- where the edges' generator stands: at the outer loop; in the inner one -/
inductive ESt where
  | out (o : Nat)
  | inn (o : Nat) (u : Int) (r : List (Int × List (Str × Int))) (It2 : Addr) (j : Nat)
def ESt.rem (rows : List URow) : ESt → List ERow'
  | .out o => flat (rows.drop o)
  | .inn o u r _ j => rowOf u (r.drop j) ++ flat (rows.drop (o + 1))
structure EPar where
  sid : Nat
  gi : Nat
  a : Addr
  C : Addr
  It : Addr
  dA : Addr
  tA : Tag
  ob : Obj
  rows : List URow
  fA : Int → Addr
  fE : Int → Int → Addr
  obR : Int → Obj
  Fa : AHeap → Prop
/-- what stands between the turns -/
def EPar.Inv (P : EPar) : ESt → AHeap → Prop
  | .out o => fun H => (∃ m, H P.C = some (tgC P.sid, .loc m)) ∧ H P.It = some (tgI P.sid, .itm P.dA o P.rows.length (epOf P.ob)) ∧ H P.dA = some (P.tA, .pin P.ob (.dI (refs P.fA (P.rows.map (·.1))))) ∧ P.Fa H
  | .inn o u r It2 j => fun H => (∃ m : LM, H P.C = some (tgC P.sid, .loc m) ∧ m "u" = some (.int u)) ∧ H P.It = some (tgI P.sid, .itm P.dA (o + 1) P.rows.length (epOf P.ob)) ∧ H P.dA = some (P.tA, .pin P.ob (.dI (refs P.fA (P.rows.map (·.1))))) ∧ P.Fa H ∧
      P.rows[o]? = some (u, r) ∧ j ≤ r.length ∧ H It2 = some (tgJ P.sid, .itm (P.fA u) j r.length (epOf (P.obR u)))
structure EPar.Ok (P : EPar) : Prop where
  tA : P.tA.own ≠ P.sid
  tA0 : P.tA.own ≠ xo
  fr : ∀ H H', P.Fa H → Frame P.sid H H' → P.Fa H'
  row : ∀ (H : AHeap) (i : Nat) (u : Int) (r : List (Int × List (Str × Int))), P.Fa H → P.rows[i]? = some (u, r) → ∃ tR, H (P.fA u) = some (tR, .pin (P.obR u) (.dI (refs (P.fE u) (r.map (·.1))))) ∧ tR.own ≠ P.sid ∧ tR.own ≠ xo
  edge : ∀ (H : AHeap) (i : Nat) (u : Int) (r : List (Int × List (Str × Int))) (j : Nat) (v : Int) (more : List (Str × Int)), P.Fa H → P.rows[i]? = some (u, r) → r[j]? = some (v, more) → ∃ td, H (P.fE u v) = some (td, .dS (nums more)) ∧ td.own ≠ P.sid ∧ td.own ≠ xo
/-- a generator at such a place -/
def EPar.At (P : EPar) (e : Expr) (env : Env) : ESt → GenState → Prop
  | .out o => fun gs => o = 0 ∧ AtStart e P.It env gs
  | .inn _ _ _ It2 _ => fun gs => ∃ k l p cl k2 l2 p2 kp2, gs = .suspended k l (.compLoop e 1 (.ref It2) .none env) p [.ret k2 none false l2 (.compLoop e 0 (.ref P.It) .none env) p2 kp2] cl ∧
      k (.send .none) = .pure (.again (.compLoop e 1 (.ref It2) .none env)) ∧ k2 (.ok .next) = .pure (.again (.compLoop e 0 (.ref P.It) .none env))
/-- how a waking ends -/
def EPar.End (P : EPar) (c : Cx) (e : Expr) (env : Env) (W0 : WM) (s0 : Shared) (H : AHeap) : List ERow' → PySem.End → Shared → Prop
  | [] => fun e' s' => e' = .ret (.ok .next) ∧ ∃ W' H', Post c W0 s0 H W' s' H' ∧ H' P.a = some (tgG P.sid, anyGen P.gi) ∧ Frame P.sid H H'
  | (u, v, more) :: rest => fun e' s' => e'.quiet = true ∧ ∃ w g l k cd p fs, e' = .susp w g l k cd p fs ∧ ∃ W' H' y x', Post c W0 s0 H W' s' H' ∧ H' P.a = some (tgG P.sid, anyGen P.gi) ∧ Frame P.sid H H' ∧ VR W' w y ∧
      (∃ dd, y = .tup [.int u, .int v, .ref dd] ∧ H' dd = some (tgD P.sid, .dS (nums more))) ∧ P.Inv x' H' ∧ x'.rem P.rows = rest ∧ P.At e env x' e'.genState
/-- a waking, under way -/
structure EPar.Way (P : EPar) (c : Cx) (A : Around) (env : Env) (W0 : WM) (s0 : Shared) (H : AHeap) (W : WM) (s : Shared) (H1 : AHeap) (m : LM) : Prop where
  p : PostX c env.locals W0 s0 (Nx.drop H P.C) W s H1
  fo : Fo c W s H1 env (A.deeper env) m
  fr : Frame P.sid H H1
  a : H1 P.a = some (tgG P.sid, anyGen P.gi)
  dA : H1 P.dA = some (P.tA, .pin P.ob (.dI (refs P.fA (P.rows.map (·.1)))))
  fa : P.Fa H1
section
variable {c : Cx} {A : Around} {env : Env} {W0 : WM} {s0 : Shared} {H : AHeap} {P : EPar}
theorem EPar.Way.step {W W' : WM} {s s' : Shared} {H1 H2 : AHeap} {m m' : LM} (h : P.Way c A env W0 s0 H W s H1 m) (hP : P.Ok) (q : PostX c env.locals W s H1 W' s' H2) (fo : Fo c W' s' H2 env (A.deeper env) m') (f : Frame P.sid H1 H2) (ha : H2 P.a = some (tgG P.sid, anyGen P.gi)) : P.Way c A env W0 s0 H W' s' H2 m' :=
  ⟨h.p.trans q, fo, h.fr.trans f, ha, f _ _ _ h.dA hP.tA hP.tA0, hP.fr _ _ h.fa f⟩
theorem flat_cons {x : URow} {rows : List URow} : flat (x :: rows) = rowOf x.1 x.2 ++ flat rows := by simp [flat]
end
end Nx
end
section
set_option autoImplicit false
namespace Nx
abbrev eElt (p4 p5 p6 p7 p8 p9 : Pos) (k2 : Nat) : Expr := .Tuple [.Name "u" p4, .Name "v" p5, .Call (.Attribute (.Name "datadict" p6) "copy" p7) [] [] p8] k2 p9
abbrev eT0 (p1 p2 p3 : Pos) (k1 : Nat) : Expr := .Tuple [.Name "u" p1, .Name "nbrs" p2] k1 p3
abbrev eT1 (q1 q2 q3 : Pos) (k3 : Nat) : Expr := .Tuple [.Name "v" q1, .Name "datadict" q2] k3 q3
abbrev eI1 (q4 q5 q6 : Pos) : Expr := .Call (.Attribute (.Name "nbrs" q4) "items" q5) [] [] q6
section
variable {c : Cx} {A : Around} {env : Env} {m m' : LM} {W W' W0 : WM} {s s' s0 : Shared} {H H1 : AHeap} {P : EPar}
theorem refsR_get {f : Int → Addr} {r : List (Int × List (Str × Int))} {j : Nat} {v : Int} {more : List (Str × Int)} (h : r[j]? = some (v, more)) : (refs f (r.map (·.1)))[j]? = some (v, .ref (f v)) := refs_get h
/-- an edge handed out -/
theorem edge_emit {i0 : Expr} {sc : Scope} {pos p1 p2 p3 p4 p5 p6 p7 p8 p9 q1 q2 q3 q4 q5 q6 : Pos} {k1 k2 k3 : Nat} {e : Expr} (he : e = .GeneratorExp (eElt p4 p5 p6 p7 p8 p9 k2) [⟨eT0 p1 p2 p3 k1, i0, [], 0⟩, ⟨eT1 q1 q2 q3 k3, eI1 q4 q5 q6, [], 0⟩] sc pos)
    (hP : P.Ok) (hE : GEnv env P.C) (hu : env.kindOf "u" = some .local) (hv : env.kindOf "v" = some .local) (hd : env.kindOf "datadict" = some .local) (hcopy : MCallA env (.Name "datadict" p6) "copy" p7 [] p8)
    (rm : Rm A 1) {m0 : LM} (hC : H P.C = some (tgC P.sid, .loc m0)) (w : P.Way c A env W0 s0 H W s H1 m)
    {o j : Nat} {u v : Int} {r : List (Int × List (Str × Int))} {more : List (Str × Int)} {It2 : Addr} (ho : P.rows[o]? = some (u, r)) (hj : r[j]? = some (v, more)) (hmu : m "u" = some (.int u))
    (hIt : H1 P.It = some (tgI P.sid, .itm P.dA (o + 1) P.rows.length (epOf P.ob))) (hIt2 : H1 It2 = some (tgJ P.sid, .itm (P.fA u) j r.length (epOf (P.obR u))))
    {k : Result → Sem Fin} {l kp : List Value} {p : Pos} (hk : k (.ok .next) = .pure (.again (.compLoop e 0 (.ref P.It) .none env))) :
    Sg c.M A (P.End c e env W0 s0 H (rowOf u (r.drop j) ++ flat (P.rows.drop (o + 1)))) (.compLoop e 1 (.ref It2) .none env) (c.M.den (.compLoop e 1 (.ref It2) .none env)) [.ret k none false l (.compLoop e 0 (.ref P.It) .none env) p kp] s := by
  have hdrop : r.drop j = (v, more) :: r.drop (j + 1) := by
    obtain ⟨hlt, e1⟩ := List.getElem?_eq_some_iff.mp hj
    rw [List.drop_eq_getElem_cons hlt, e1]
  rw [hdrop]
  show Sg c.M A (P.End c e env W0 s0 H ((u, v, more) :: (rowOf u (r.drop (j + 1)) ++ flat (P.rows.drop (o + 1))))) _ _ _ s
  obtain ⟨tR, hR, hR1, hR2⟩ := hP.row _ _ _ _ w.fa ho
  obtain ⟨td, hed, htd, htd0⟩ := hP.edge _ _ _ _ _ _ _ w.fa ho hj
  have hIt2' : H1 It2 = some (tgJ P.sid, .itm (P.fA u) j (refs (P.fE u) (r.map (·.1))).length (epOf (P.obR u))) := by rw [refs_length, List.length_map]; exact hIt2
  have hlen : (refs (P.fE u) (r.map (·.1))).length = r.length := by rw [refs_length, List.length_map]
  have nIJ : P.It ≠ It2 := ne_tag hIt hIt2 (by simp)
  have naJ : P.a ≠ It2 := ne_tag w.a hIt2 (by simp)
  have hover : A.over (.compLoop e 1 (.ref It2) .none env) [.ret k none false l (.compLoop e 0 (.ref P.It) .none env) p kp] = A.deeper env := by subst he; exact over_loop1
  have hL0 : ∀ kk ll pp cl, kk (.send .none) = .pure (.again (.compLoop e 1 (.ref It2) .none env)) → P.At e env (.inn o u r It2 (j + 1)) (.suspended kk ll (.compLoop e 1 (.ref It2) .none env) pp [.ret k none false l (.compLoop e 0 (.ref P.It) .none env) p kp] cl) := fun kk ll pp cl h => ⟨kk, ll, pp, cl, k, l, p, kp, rfl, h, hk⟩
  clear hk
  subst he
  show Sg c.M A _ _ ((compTurn (.GeneratorExp (eElt p4 p5 p6 p7 p8 p9 k2) [⟨eT0 p1 p2 p3 k1, i0, [], 0⟩, ⟨eT1 q1 q2 q3 k3, eI1 q4 q5 q6, [], 0⟩] sc pos) 1 (.ref It2) .none env).onRaise (fun x => do noteFrame x env; theTreesLotGoes x)) _ s
  rw [compTurn_in, Sem.onRaise_eq_wrap]
  refine sg_bw (wpAny_standAt ?_)
  refine sg_ag hover (ag_item (tgT P.sid) hIt2' hR (refsR_get hj)) w.p.ok w.fo ?_
  rintro W1 s1 m1 H2 x y x1 fo1 r1 ⟨rfl, ta, hta, rfl, rfl⟩
  obtain ⟨uu, rfl, r1⟩ := (show OV W1 x (some (.ref ta)) from r1).some
  obtain rfl : uu = .ref ta := r1
  have nIta : It2 ≠ ta := ne_new hta hIt2
  have f2 : Frame P.sid H1 (upd (upd H1 It2 (tgJ P.sid, .itmo (P.fA u) (j + 1) (refs (P.fE u) (r.map (·.1))).length (epOf (P.obR u)) ta)) ta (tgT P.sid, .otup [.int v, .ref (P.fE u v)])) :=
    (Frame.upd fun t o q => by rw [hIt2] at q; cases q; rfl).trans (Frame.new ((upd_ne (Ne.symm nIta)).trans hta))
  refine sg_ag hover (ag_go (upd_of nIta upd_same)) x1.ok fo1 ?_
  rintro W2 s2 m2 H3 x y x2 fo2 r2 ⟨rfl, rfl⟩
  have f3 := f2.trans (Frame.upd (gid := P.sid) (a := It2) (x := (tgJ P.sid, .itm (P.fA u) (j + 1) (refs (P.fE u) (r.map (·.1))).length (epOf (P.obR u)))) fun t o q => by rw [upd_of nIta upd_same] at q; cases q; rfl)
  generalize hH3 : upd (upd (upd H1 It2 (tgJ P.sid, .itmo (P.fA u) (j + 1) (refs (P.fE u) (r.map (·.1))).length (epOf (P.obR u)) ta)) ta (tgT P.sid, .otup [.int v, .ref (P.fE u v)])) It2 (tgJ P.sid, .itm (P.fA u) (j + 1) (refs (P.fE u) (r.map (·.1))).length (epOf (P.obR u))) = H3 at x2 fo2 f3
  have hta3 : H3 ta = some (tgT P.sid, .otup [.int v, .ref (P.fE u v)]) := by rw [← hH3]; exact upd_of (Ne.symm nIta) upd_same
  have hIt23 : H3 It2 = some (tgJ P.sid, .itm (P.fA u) (j + 1) (refs (P.fE u) (r.map (·.1))).length (epOf (P.obR u))) := by rw [← hH3]; exact upd_same
  have hIt3 : H3 P.It = some (tgI P.sid, .itm P.dA (o + 1) P.rows.length (epOf P.ob)) := by
    rw [← hH3]; exact upd_of nIJ (upd_of (ne_new hta hIt) (upd_of nIJ hIt))
  have ha3 : H3 P.a = some (tgG P.sid, anyGen P.gi) := by
    rw [← hH3]; exact upd_of naJ (upd_of (ne_new hta w.a) (upd_of naJ w.a))
  refine sg_ag hover (ag_unpack (names := ["v", "datadict"]) (unp_otup (.inl rm.h) hta3) (.cons (.cons .nil)) rfl (by intro y hy; rcases List.mem_cons.mp hy with rfl | hy; exact hv; rcases List.mem_cons.mp hy with rfl | hy; exact hd; cases hy) hE.kind) x2.ok fo2 ?_
  rintro W3 s3 m3 H4 x y x3 fo3 r3 ⟨rfl, rfl⟩
  have hed4 : H4 (P.fE u v) = some (td, .dS (nums more)) := f3 _ _ _ hed htd htd0
  have hy : ∀ v, yieldOut env v = yieldValue v := fun v => by simp only [yieldOut, hE.co, Bool.false_eq_true, if_false]
  simp only [hy]
  rw [Sem.bind_eq_wrap', Sem.bind_eq_wrap', Sem.wrap_wrap, Sem.wrap_wrap]
  have helt : AE false c (A.deeper env) env (setms m2 [("v", .int v), ("datadict", .ref (P.fE u v))]) H4 (eElt p4 p5 p6 p7 p8 p9 k2) (fun y m' H' => m' = setms m2 [("v", .int v), ("datadict", .ref (P.fE u v))] ∧ ∃ dd, H4 dd = none ∧ y = .tup [.int u, .int v, .ref dd] ∧ H' = upd H4 dd (tgD P.sid, .dS (nums more))) (fun _ _ _ => False) := by
    refine ae_tuple (al_cons (ae_pe (v := .int u) (pe_name (by exact hmu) hE.kind hu) (al_cons (ae_pe (pe_name rfl hE.kind hv) (al_cons (ae_bmeth F.slot_dict_copy F.plainAttrs_dict F.type_dict_copy (a := .ref (P.fE u v)) (pe_name rfl hE.kind hd) (plainly_dS hed4) (al_nil ?_) rfl hcopy))))))
    refine CallOk.mono (call_copy (tgD P.sid) hed4) ?_ fun _ _ z => z
    rintro y H' ⟨dd, hdd, rfl, rfl⟩
    exact al_nil ⟨by simp, rfl, dd, hdd, rfl, rfl⟩
  refine sg_agw hover helt.ag x3.ok fo3 ?_
  rintro W4 s4 m4 H5 x y x4 fo4 r4 ⟨rfl, dd, hdd, rfl, rfl⟩
  have hC5 : upd H4 dd (tgD P.sid, .dS (nums more)) P.C = none := by rw [← hE.loc]; exact fo4.un
  have pp := asleep hE hC ((((w.p.trans x1).trans x2).trans x3).trans x4) fo4
  have f4 := f3.trans (Frame.new (gid := P.sid) (x := (tgD P.sid, .dS (nums more))) hdd)
  have f5 : Frame P.sid H1 (upd (upd H4 dd (tgD P.sid, .dS (nums more))) P.C (tgC P.sid, .loc (setms m2 [("v", .int v), ("datadict", .ref (P.fE u v))]))) := f4.trans (Frame.new hC5)
  have hjl := (List.getElem?_eq_some_iff.mp hj).1
  refine sg_at (sg_yield rfl fun p => ⟨rfl, _, _, _, _, _, _, _, rfl, W4, _, _, .inn o u r It2 (j + 1), pp, ?_, w.fr.trans f5, r4, ⟨dd, rfl, ?_⟩, ⟨⟨_, upd_same, hmu⟩, ?_, f5 _ _ _ w.dA hP.tA hP.tA0, hP.fr _ _ w.fa f5, ho, hjl, ?_⟩, rfl, hL0 _ _ _ _ rfl⟩)
  · exact upd_new hC5 (upd_new hdd ha3)
  · exact upd_new hC5 upd_same
  · exact upd_new hC5 (upd_new hdd hIt3)
  · rw [hlen] at hIt23
    exact upd_new hC5 (upd_new hdd hIt23)
end
end Nx
end
section
set_option autoImplicit false
namespace Nx
section
variable {c : Cx} {A : Around} {env : Env} {m m' : LM} {W W' W0 : WM} {s s' s0 : Shared} {H H1 : AHeap} {P : EPar}
/-- the outer loop, from a place -/
def OutAt (P : EPar) (c : Cx) (A : Around) (env : Env) (e : Expr) (W0 : WM) (s0 : Shared) (H : AHeap) (o : Nat) : Prop :=
  ∀ W s H1 m, P.Way c A env W0 s0 H W s H1 m → H1 P.It = some (tgI P.sid, .itm P.dA o P.rows.length (epOf P.ob)) → Sg c.M A (P.End c e env W0 s0 H (flat (P.rows.drop o))) (.compLoop e 0 (.ref P.It) .none env) (c.M.den (.compLoop e 0 (.ref P.It) .none env)) [] s
theorem edge_row_end {i0 : Expr} {sc : Scope} {pos p1 p2 p3 p4 p5 p6 p7 p8 p9 q1 q2 q3 q4 q5 q6 : Pos} {k1 k2 k3 : Nat} {e : Expr} (he : e = .GeneratorExp (eElt p4 p5 p6 p7 p8 p9 k2) [⟨eT0 p1 p2 p3 k1, i0, [], 0⟩, ⟨eT1 q1 q2 q3 k3, eI1 q4 q5 q6, [], 0⟩] sc pos)
    (hP : P.Ok) (hE : GEnv env P.C) (rm : Rm A 1) (w : P.Way c A env W0 s0 H W s H1 m)
    {o : Nat} {u : Int} {r : List (Int × List (Str × Int))} {It2 : Addr} (ho : P.rows[o]? = some (u, r))
    (hIt : H1 P.It = some (tgI P.sid, .itm P.dA (o + 1) P.rows.length (epOf P.ob))) (hIt2 : H1 It2 = some (tgJ P.sid, .itm (P.fA u) r.length r.length (epOf (P.obR u))))
    {k : Result → Sem Fin} {l kp : List Value} {p : Pos} (hk : k (.ok .next) = .pure (.again (.compLoop e 0 (.ref P.It) .none env))) (hout : OutAt P c A env e W0 s0 H (o + 1)) :
    Sg c.M A (P.End c e env W0 s0 H (flat (P.rows.drop (o + 1)))) (.compLoop e 1 (.ref It2) .none env) (c.M.den (.compLoop e 1 (.ref It2) .none env)) [.ret k none false l (.compLoop e 0 (.ref P.It) .none env) p kp] s := by
  obtain ⟨tR, hR, hR1, hR2⟩ := hP.row _ _ _ _ w.fa ho
  have hlen : (refs (P.fE u) (r.map (·.1))).length = r.length := by rw [refs_length, List.length_map]
  have hIt2' : H1 It2 = some (tgJ P.sid, .itm (P.fA u) r.length (refs (P.fE u) (r.map (·.1))).length (epOf (P.obR u))) := by rw [hlen]; exact hIt2
  have nIJ : P.It ≠ It2 := ne_tag hIt hIt2 (by simp)
  have naJ : P.a ≠ It2 := ne_tag w.a hIt2 (by simp)
  have hover : A.over (.compLoop e 1 (.ref It2) .none env) [.ret k none false l (.compLoop e 0 (.ref P.It) .none env) p kp] = A.deeper env := by subst he; exact over_loop1
  have back : ∀ W1 s1 m1 H2, P.Way c A env W0 s0 H W1 s1 H2 m1 → H2 P.It = some (tgI P.sid, .itm P.dA (o + 1) P.rows.length (epOf P.ob)) → Sg c.M A (P.End c e env W0 s0 H (flat (P.rows.drop (o + 1)))) (.compLoop e 1 (.ref It2) .none env) (leafOf (.ok .next)) [.ret k none false l (.compLoop e 0 (.ref P.It) .none env) p kp] s1 := by
    intro W1 s1 m1 H2 w1 h1
    refine sg_leaf (.ok .next) ?_
    rw [hk]
    exact sg_again (by subst he; rfl) (hout _ _ _ _ w1 h1)
  subst he
  show Sg c.M A _ _ ((compTurn (.GeneratorExp (eElt p4 p5 p6 p7 p8 p9 k2) [⟨eT0 p1 p2 p3 k1, i0, [], 0⟩, ⟨eT1 q1 q2 q3 k3, eI1 q4 q5 q6, [], 0⟩] sc pos) 1 (.ref It2) .none env).onRaise (fun x => do noteFrame x env; theTreesLotGoes x)) _ s
  rw [compTurn_in, Sem.onRaise_eq_wrap]
  refine sg_bw (wpAny_standAt ?_)
  refine sg_ag hover (ag_items_end (A := A.deeper env) rm.h hIt2' hR (by simp [refs])) w.p.ok w.fo ?_
  rintro W1 s1 m1 H2 x y x1 fo1 r1 ⟨rfl, rfl, rfl⟩
  obtain rfl := (show OV W1 x none from r1).none
  exact back _ _ _ _ (w.step hP x1 fo1 (Frame.dropped fun t o q => by rw [hIt2] at q; cases q; rfl) (drop_of naJ w.a)) (drop_of nIJ hIt)
/-- a row, from its first edge -/
theorem edge_row {i0 : Expr} {sc : Scope} {pos p1 p2 p3 p4 p5 p6 p7 p8 p9 q1 q2 q3 q4 q5 q6 : Pos} {k1 k2 k3 : Nat} {e : Expr} (he : e = .GeneratorExp (eElt p4 p5 p6 p7 p8 p9 k2) [⟨eT0 p1 p2 p3 k1, i0, [], 0⟩, ⟨eT1 q1 q2 q3 k3, eI1 q4 q5 q6, [], 0⟩] sc pos)
    (hP : P.Ok) (hE : GEnv env P.C) (hu : env.kindOf "u" = some .local) (hv : env.kindOf "v" = some .local) (hd : env.kindOf "datadict" = some .local) (hcopy : MCallA env (.Name "datadict" p6) "copy" p7 [] p8) (rm : Rm A 1) {m0 : LM} (hC : H P.C = some (tgC P.sid, .loc m0)) (w : P.Way c A env W0 s0 H W s H1 m)
    {o j : Nat} {u : Int} {r : List (Int × List (Str × Int))} {It2 : Addr} (ho : P.rows[o]? = some (u, r)) (hj : j ≤ r.length) (hmu : m "u" = some (.int u))
    (hIt : H1 P.It = some (tgI P.sid, .itm P.dA (o + 1) P.rows.length (epOf P.ob))) (hIt2 : H1 It2 = some (tgJ P.sid, .itm (P.fA u) j r.length (epOf (P.obR u))))
    {k : Result → Sem Fin} {l kp : List Value} {p : Pos} (hk : k (.ok .next) = .pure (.again (.compLoop e 0 (.ref P.It) .none env))) (hout : OutAt P c A env e W0 s0 H (o + 1)) :
    Sg c.M A (P.End c e env W0 s0 H (rowOf u (r.drop j) ++ flat (P.rows.drop (o + 1)))) (.compLoop e 1 (.ref It2) .none env) (c.M.den (.compLoop e 1 (.ref It2) .none env)) [.ret k none false l (.compLoop e 0 (.ref P.It) .none env) p kp] s := by
  rcases Nat.lt_or_ge j r.length with h | h
  · exact edge_emit (v := (r[j]).1) (more := (r[j]).2) he hP hE hu hv hd hcopy rm hC w ho (List.getElem?_eq_getElem h) hmu hIt hIt2 hk
  · obtain rfl : j = r.length := by omega
    rw [List.drop_length]
    exact edge_row_end he hP hE rm w ho hIt hIt2 hk hout
/-- a start of the inner loop -/
theorem sg_start1 {elt t0 t1 i0 i1 : Expr} {sc : Scope} {pos : Pos} {it d : Addr} {t : Tag} {i n ep : Nat} {Φ : PySem.End → Shared → Prop} {fs : List PySem.Frame} (hA : A.over (.compStart (.GeneratorExp elt [⟨t0, i0, [], 0⟩, ⟨t1, i1, [], 0⟩] sc pos) 1 (.ref it) .none env) fs = A.deeper env) (ok : Ok c W s H1) (fo : Fo c W s H1 env (A.deeper env) m) (h : H1 it = some (t, .itm d i n ep))
    (k : ∀ W' s', PostX c env.locals W s H1 W' s' H1 → Fo c W' s' H1 env (A.deeper env) m → Sg c.M A Φ (.compLoop (.GeneratorExp elt [⟨t0, i0, [], 0⟩, ⟨t1, i1, [], 0⟩] sc pos) 1 (.ref it) .none env) (c.M.den (.compLoop (.GeneratorExp elt [⟨t0, i0, [], 0⟩, ⟨t1, i1, [], 0⟩] sc pos) 1 (.ref it) .none env)) fs s') :
    Sg c.M A Φ (.compStart (.GeneratorExp elt [⟨t0, i0, [], 0⟩, ⟨t1, i1, [], 0⟩] sc pos) 1 (.ref it) .none env) (c.M.den (.compStart (.GeneratorExp elt [⟨t0, i0, [], 0⟩, ⟨t1, i1, [], 0⟩] sc pos) 1 (.ref it) .none env)) fs s := by
  show Sg c.M A _ _ ((compStart (.GeneratorExp elt [⟨t0, i0, [], 0⟩, ⟨t1, i1, [], 0⟩] sc pos) 1 (.ref it) .none env).onRaise (fun x => do noteFrame x env; standAt theWindowsPlace)) fs s
  unfold compStart
  rw [Sem.onRaise_eq_wrap]
  show Sg c.M A _ _ ((ask >>= _).wrap _ _ _ _) fs s
  refine sg_bw (wpAny_askSetting ?_)
  split
  · exact sg_again rfl (k W s ((Post.refl ok).x _) fo)
  · refine sg_bw (wpAny_rule ?_)
    show Sg c.M A _ _ ((standAt i1.pos >>= _).wrap _ _ _ _) fs s
    refine sg_bw (wpAny_standAt ?_)
    refine sg_ag hA (iter_itm h) ok fo ?_
    rintro W' s' m' H' x y p f r ⟨rfl, rfl, rfl⟩
    obtain rfl : x = .ref it := r
    exact sg_again rfl (k W' s' p f)
/-- the outer loop -/
theorem edge_out {i0 : Expr} {sc : Scope} {pos p1 p2 p3 p4 p5 p6 p7 p8 p9 q1 q2 q3 q4 q5 q6 : Pos} {k1 k2 k3 : Nat} {e : Expr} (he : e = .GeneratorExp (eElt p4 p5 p6 p7 p8 p9 k2) [⟨eT0 p1 p2 p3 k1, i0, [], 0⟩, ⟨eT1 q1 q2 q3 k3, eI1 q4 q5 q6, [], 0⟩] sc pos)
    (hP : P.Ok) (hE : GEnv env P.C) (hu : env.kindOf "u" = some .local) (hb : env.kindOf "nbrs" = some .local) (hv : env.kindOf "v" = some .local) (hd : env.kindOf "datadict" = some .local) (hcopy : MCallA env (.Name "datadict" p6) "copy" p7 [] p8) (hitems : MCallA env (.Name "nbrs" q4) "items" q5 [] q6)
    (hfold : ∀ x, foldedSetIterable (eI1 q4 q5 q6) env x = pure x)
    (rm : Rm A 1) {m0 : LM} (hC : H P.C = some (tgC P.sid, .loc m0)) : ∀ (k o : Nat), k + o = P.rows.length → OutAt P c A env e W0 s0 H o := by
  have hlenA : (refs P.fA (P.rows.map (·.1))).length = P.rows.length := by rw [refs_length, List.length_map]
  intro k
  induction k with
  | zero =>
    intro o ho W s H1 m w hIt
    obtain rfl : o = P.rows.length := by omega
    rw [List.drop_length]
    have naI : P.a ≠ P.It := ne_tag w.a hIt (by simp)
    have hdA := w.dA
    have hIt' : H1 P.It = some (tgI P.sid, .itm P.dA P.rows.length (refs P.fA (P.rows.map (·.1))).length (epOf P.ob)) := by rw [hlenA]; exact hIt
    subst he
    show Sg c.M A _ _ ((compTurn (.GeneratorExp (eElt p4 p5 p6 p7 p8 p9 k2) [⟨eT0 p1 p2 p3 k1, i0, [], 0⟩, ⟨eT1 q1 q2 q3 k3, eI1 q4 q5 q6, [], 0⟩] sc pos) 0 (.ref P.It) .none env).onRaise (leaving env)) [] s
    rw [compTurn_out, Sem.onRaise_eq_wrap]
    refine sg_bw (wpAny_standAt ?_)
    refine sg_ag over_loop (ag_items_end (A := A.deeper env) rm.h hIt' hdA (by simp [refs])) w.p.ok w.fo ?_
    rintro W1 s1 m1 H2 x y x1 fo1 r1 ⟨rfl, rfl, rfl⟩
    obtain rfl := (show OV W1 x none from r1).none
    have hC1 : Nx.drop H1 P.It P.C = none := by rw [← hE.loc]; exact fo1.un
    refine sg_end (.ok .next) ⟨rfl, W1, _, asleep hE hC (w.p.trans x1) fo1, upd_new hC1 (drop_of naI w.a), (w.fr.trans (Frame.dropped fun t o q => by rw [hIt] at q; cases q; rfl)).trans (Frame.new hC1)⟩
  | succ k ih =>
    intro o ho W s H1 m w hIt
    have hlt : o < P.rows.length := by omega
    obtain ⟨⟨u, r⟩, hrow⟩ : ∃ x, P.rows[o]? = some x := ⟨P.rows[o], List.getElem?_eq_getElem hlt⟩
    have hout := ih (o + 1) (by omega)
    have hdrop : P.rows.drop o = (u, r) :: P.rows.drop (o + 1) := by
      obtain ⟨hlt, e1⟩ := List.getElem?_eq_some_iff.mp hrow
      rw [List.drop_eq_getElem_cons hlt, e1]
    rw [hdrop, flat_cons]
    have naI : P.a ≠ P.It := ne_tag w.a hIt (by simp)
    have hIt' : H1 P.It = some (tgI P.sid, .itm P.dA o (refs P.fA (P.rows.map (·.1))).length (epOf P.ob)) := by rw [hlenA]; exact hIt
    have hget : (refs P.fA (P.rows.map (·.1)))[o]? = some (u, .ref (P.fA u)) := by unfold refs; rw [List.getElem?_map, List.getElem?_map, hrow]; rfl
    have goal : ∀ Φ, (P.End c e env W0 s0 H (rowOf u r ++ flat (P.rows.drop (o + 1)))) = Φ → Sg c.M A Φ (.compLoop e 0 (.ref P.It) .none env) (c.M.den (.compLoop e 0 (.ref P.It) .none env)) [] s := by
      intro Φ hΦ
      have row := fun {W s H1 m j It2} (w : P.Way c A env W0 s0 H W s H1 m) hj hmu hIt hIt2 {k l kp p} hk => edge_row (W := W) (s := s) (H1 := H1) (m := m) (j := j) (It2 := It2) (k := k) (l := l) (kp := kp) (p := p) he hP hE hu hv hd hcopy rm hC w hrow hj hmu hIt hIt2 hk hout
      subst he
      show Sg c.M A _ _ ((compTurn (.GeneratorExp (eElt p4 p5 p6 p7 p8 p9 k2) [⟨eT0 p1 p2 p3 k1, i0, [], 0⟩, ⟨eT1 q1 q2 q3 k3, eI1 q4 q5 q6, [], 0⟩] sc pos) 0 (.ref P.It) .none env).onRaise (leaving env)) [] s
      rw [compTurn_out, Sem.onRaise_eq_wrap]
      refine sg_bw (wpAny_standAt ?_)
      refine sg_ag over_loop (ag_item (tgT P.sid) hIt' w.dA hget) w.p.ok w.fo ?_
      rintro W1 s1 m1 H2 x y x1 fo1 r1 ⟨rfl, ta, hta, rfl, rfl⟩
      obtain ⟨uu, rfl, r1⟩ := (show OV W1 x (some (.ref ta)) from r1).some
      obtain rfl : uu = .ref ta := r1
      have nIta : P.It ≠ ta := ne_new hta hIt
      have f2 : Frame P.sid H1 (upd (upd H1 P.It (tgI P.sid, .itmo P.dA (o + 1) (refs P.fA (P.rows.map (·.1))).length (epOf P.ob) ta)) ta (tgT P.sid, .otup [.int u, .ref (P.fA u)])) :=
        (Frame.upd fun t o q => by rw [hIt] at q; cases q; rfl).trans (Frame.new ((upd_ne (Ne.symm nIta)).trans hta))
      have w1 := w.step hP x1 fo1 f2 (upd_of (ne_new hta w.a) (upd_of naI w.a))
      refine sg_ag over_loop (ag_go (upd_of nIta upd_same)) x1.ok fo1 ?_
      rintro W2 s2 m2 H3 x y x2 fo2 r2 ⟨rfl, rfl⟩
      have w2 := w1.step hP x2 fo2 (Frame.upd fun t o q => by rw [upd_of nIta upd_same] at q; cases q; rfl) (upd_of naI w1.a)
      generalize hH3 : upd (upd (upd H1 P.It (tgI P.sid, .itmo P.dA (o + 1) (refs P.fA (P.rows.map (·.1))).length (epOf P.ob) ta)) ta (tgT P.sid, .otup [.int u, .ref (P.fA u)])) P.It (tgI P.sid, .itm P.dA (o + 1) (refs P.fA (P.rows.map (·.1))).length (epOf P.ob)) = H3 at x2 fo2 w2
      have hta3 : H3 ta = some (tgT P.sid, .otup [.int u, .ref (P.fA u)]) := by rw [← hH3]; exact upd_of (Ne.symm nIta) upd_same
      have hIt3 : H3 P.It = some (tgI P.sid, .itm P.dA (o + 1) P.rows.length (epOf P.ob)) := by rw [← hH3, hlenA]; exact upd_same
      clear hH3
      refine sg_ag over_loop (ag_unpack (names := ["u", "nbrs"]) (unp_otup (.inl rm.h) hta3) (.cons (.cons .nil)) rfl (by intro y hy; rcases List.mem_cons.mp hy with rfl | hy; exact hu; rcases List.mem_cons.mp hy with rfl | hy; exact hb; cases hy) hE.kind) x2.ok fo2 ?_
      rintro W3 s3 m3 H4 x y x3 fo3 r3 ⟨rfl, rfl⟩
      have w3 := w2.step hP x3 fo3 (Frame.refl _ _) w2.a
      obtain ⟨tR, hR, hR1, hR2⟩ := hP.row _ _ _ _ w3.fa hrow
      have hi1 : AE false c (A.deeper env) env (setms m2 [("u", .int u), ("nbrs", .ref (P.fA u))]) H4 (eI1 q4 q5 q6) (fun y m' H' => m' = setms m2 [("u", .int u), ("nbrs", .ref (P.fA u))] ∧ ∃ d, H4 d = none ∧ y = .ref d ∧ H' = upd H4 d (⟨P.sid, 6, []⟩, viewOf (P.fA u))) (fun _ _ _ => False) := by
        refine ae_bmeth F.slot_dict_items F.plainAttrs_dict F.type_dict_items (a := .ref (P.fA u)) (pe_name rfl hE.kind hb) (plainly_pin hR) (al_nil ?_) rfl hitems
        refine CallOk.mono (call_items_pin ⟨P.sid, 6, []⟩ hR) ?_ fun _ _ z => z
        rintro y H' ⟨d, hd', rfl, rfl⟩
        exact ⟨rfl, d, hd', rfl, rfl⟩
      refine sg_ag over_loop hi1.ag x3.ok fo3 ?_
      rintro W4 s4 m4 H5 x y x4 fo4 r4 ⟨rfl, d, hd', rfl, rfl⟩
      obtain rfl : x = .ref d := r4
      have w4 := w3.step hP x4 fo4 (Frame.new hd') (upd_new hd' w3.a)
      refine sg_bw (wpAny_standAt ?_)
      rw [hfold]
      refine sg_bw (wpAny_pure ?_)
      have hlenR : (refs (P.fE u) (r.map (·.1))).length = r.length := by rw [refs_length, List.length_map]
      refine sg_bw (wpAny_holding ?_)
      rw [over_loop]
      refine wpAny_mono (wpN_any ((ag_iter (nf := false) (env := env) (m := setms m2 [("u", .int u), ("nbrs", .ref (P.fA u))]) (E := fun _ _ _ => False) (iter_items_pin (tgJ P.sid) (upd_same (H := H4)) (upd_new hd' hR)) fun _ => rfl) W4 s4 x4.ok fo4)) ?_ fun _ _ ⟨_, _, _, _, _, _, _, z⟩ => z.elim
      rintro x s5 ⟨W5, H6, m5, y, x5, fo5, r5, rfl, It2, rfl, hI2, rfl⟩
      obtain rfl : x = .ref It2 := r5
      have w5 := w4.step hP x5 fo5 (Frame.new hI2) (upd_new hI2 w4.a)
      rw [hlenR] at w5 x5 fo5
      have hIt5 : upd (upd H4 d (⟨P.sid, 6, []⟩, viewOf (P.fA u))) It2 (tgJ P.sid, .itm (P.fA u) 0 r.length (epOf (P.obR u))) P.It = some (tgI P.sid, .itm P.dA (o + 1) P.rows.length (epOf P.ob)) := upd_new hI2 (upd_new hd' hIt3)
      rw [Sem.bind_eq_wrap', Sem.wrap_wrap]
      unfold runOwn
      rw [Sem.onRaise_eq_wrap, Sem.wrap_wrap]
      unfold run
      simp only [Sem.wrap]
      refine sg_call fun p => ?_
      refine sg_start1 over_start1 x5.ok fo5 upd_same fun W6 s6 x6 fo6 => ?_
      have w6 := w5.step hP x6 fo6 (Frame.refl _ _) w5.a
      have := fun (k : Result → Sem Fin) (l : List Value) hk => row (j := 0) w6 (Nat.zero_le _) rfl hIt5 upd_same (k := k) (l := l) (kp := []) (p := p) hk
      simp only [List.drop_zero, hΦ] at this
      refine this _ _ ?_
      rfl
    exact goal _ rfl
end
end Nx
end
section
set_option autoImplicit false
namespace Nx
/-- what the edges' generator hands out -/
def eOut (es : List ERow') (sid : Nat) (i : Nat) (y : AV) (H : AHeap) : Prop := ∃ (u v : Int) (more : List (Str × Int)) (dd : Addr), es[i]? = some (u, v, more) ∧ y = .tup [.int u, .int v, .ref dd] ∧ H dd = some (tgD sid, .dS (nums more))
section
variable {c : Cx} {A : Around} {env : Env} {m m' : LM} {W W' W0 : WM} {s s' s0 : Shared} {H H1 : AHeap} {P : EPar}
theorem edges_life {i0 : Expr} {sc : Scope} {pos p1 p2 p3 p4 p5 p6 p7 p8 p9 q1 q2 q3 q4 q5 q6 : Pos} {k1 k2 k3 : Nat} {e : Expr} (he : e = .GeneratorExp (eElt p4 p5 p6 p7 p8 p9 k2) [⟨eT0 p1 p2 p3 k1, i0, [], 0⟩, ⟨eT1 q1 q2 q3 k3, eI1 q4 q5 q6, [], 0⟩] sc pos)
    (hP : P.Ok) (hE : GEnv env P.C) (hu : env.kindOf "u" = some .local) (hb : env.kindOf "nbrs" = some .local) (hv : env.kindOf "v" = some .local) (hd : env.kindOf "datadict" = some .local) (hcopy : MCallA env (.Name "datadict" p6) "copy" p7 [] p8) (hitems : MCallA env (.Name "nbrs" q4) "items" q5 [] q6)
    (hfold : ∀ x, foldedSetIterable (eI1 q4 q5 q6) env x = pure x) :
    ∀ n i x gs, x.rem P.rows = (flat P.rows).drop i → n + i = (flat P.rows).length → P.At e env x gs → GLifeS c 1 P.a (tgG P.sid) P.gi P.sid P.Inv (eOut (flat P.rows) P.sid) n i x gs := by
  -- a waking
  have go : ∀ x gs A W s H fs, P.At e env x gs → Rm A 1 → Ok c W s H → A.frames = some fs → FF c W s.heap H fs → H P.a = some (tgG P.sid, anyGen P.gi) → P.Inv x H → GoP c.M A (P.End c e env W s H (x.rem P.rows)) s gs := by
    intro x gs A W s H fs hgs rm ok hA ff ha hInv
    cases x with
    | out o =>
      obtain ⟨rfl, rfl⟩ := hgs
      obtain ⟨⟨m, hC⟩, hIt, hdA, hFa⟩ := hInv
      obtain ⟨ok1, fo1⟩ := wake ok hE hC hA ff
      have hIt1 : Nx.drop H P.C P.It = _ := drop_of (ne_tag hIt hC (by simp)) hIt
      have f1 : Frame P.sid H (Nx.drop H P.C) := Frame.dropped fun t o q => by rw [hC] at q; cases q; rfl
      have w : P.Way c A env W s H W s (Nx.drop H P.C) m := ⟨(Post.refl ok1).x _, fo1, f1, drop_of (ne_tag ha hC (by simp)) ha, f1 _ _ _ hdA hP.tA hP.tA0, hP.fr _ _ hFa f1⟩
      have out := edge_out he hP hE hu hb hv hd hcopy hitems hfold rm hC P.rows.length 0 (by omega) (W0 := W) (s0 := s) (H := H) (c := c)
      have := sg_start (Φ := P.End c e env W s H (flat (P.rows.drop 0))) (elt := eElt p4 p5 p6 p7 p8 p9 k2) (target := eT0 p1 p2 p3 k1) (iter := i0) (rest := [⟨eT1 q1 q2 q3 k3, eI1 q4 q5 q6, [], 0⟩]) (sc := sc) (pos := pos) ok1 fo1 hIt1 fun W' s' q fo' => by
        have := out W' s' _ _ (w.step hP q fo' (Frame.refl _ _) w.a) hIt1
        rw [he] at this ⊢
        exact this
      rw [← he] at this
      exact this
    | inn o u r It2 j =>
      obtain ⟨k, l, p, cl, k2', l2, p2', kp2, rfl, hk, hk2⟩ := hgs
      obtain ⟨⟨m, hC, hmu⟩, hIt, hdA, hFa, ho, hj, hI2⟩ := hInv
      obtain ⟨ok1, fo1⟩ := wake ok hE hC hA ff
      have f1 : Frame P.sid H (Nx.drop H P.C) := Frame.dropped fun t o q => by rw [hC] at q; cases q; rfl
      have w : P.Way c A env W s H W s (Nx.drop H P.C) m := ⟨(Post.refl ok1).x _, fo1, f1, drop_of (ne_tag ha hC (by simp)) ha, f1 _ _ _ hdA hP.tA hP.tA0, hP.fr _ _ hFa f1⟩
      have hlt := (List.getElem?_eq_some_iff.mp ho).1
      have out := edge_out he hP hE hu hb hv hd hcopy hitems hfold rm hC (P.rows.length - (o + 1)) (o + 1) (by omega) (W0 := W) (s0 := s) (H := H) (c := c)
      show Sg _ _ _ _ (k (.send .none)) _ s
      rw [hk]
      exact sg_again (by subst he; rfl) (edge_row he hP hE hu hv hd hcopy rm hC w ho hj hmu (drop_of (ne_tag hIt hC (by simp)) hIt) (drop_of (ne_tag hI2 hC (by simp)) hI2) hk2 out)
  intro n
  induction n with
  | zero =>
    intro i x gs hrem hi hgs A W s H fs rm ok hA ff ha hInv
    have := go x gs A W s H fs hgs rm ok hA ff ha hInv
    rw [hrem, List.drop_of_length_le (by omega)] at this
    exact this
  | succ n ih =>
    intro i x gs hrem hi hgs A W s H fs rm ok hA ff ha hInv
    have hlt : i < (flat P.rows).length := by omega
    have := go x gs A W s H fs hgs rm ok hA ff ha hInv
    rw [hrem, List.drop_eq_getElem_cons hlt] at this
    refine this.mono ?_
    rintro e' s' ⟨hq, w, g, l, k, cd, p, fs, rfl, W', H', y, x', p1, h1, f1, r, ⟨dd, hy, hdd⟩, hI, hr, hat⟩
    exact ⟨hq, w, g, l, k, cd, p, fs, rfl, W', H', y, x', p1, h1, f1, r, ⟨_, _, _, dd, List.getElem?_eq_getElem hlt, hy, hdd⟩, hI, ih (i + 1) x' _ hr (by omega) hat⟩
end
end Nx
end
section
set_option autoImplicit false
namespace Nx
section
variable {nf : Bool} {c : Cx} {A : Around} {env : Env} {m : LM} {H H' : AHeap} {E : AV → LM → AHeap → Prop} {gid gid' : Nat} {dir : Bool} {C CN : Addr} {loc : Loc} {mm : List (Str × AV)} {g : GC}
/-! ### a graph's own numbers -/
theorem want_whole {w' : List (Str × Int)} (t : Tag) (o : AObj) (h : wantG gid dir C loc mm { g with whole := w' } t = some o) : wset (wantG gid dir C loc mm g) (tG gid) (.dS (nums w')) t = some o := by
  by_cases e : t = tG gid
  · subst e
    rw [wset_same]
    simpa [wantG] using h
  · rw [wset_ne e, ← h]
    unfold wantG GC.keys
    split
    · rename_i e1
      obtain ⟨ow, ro, ke⟩ := t
      dsimp only at *
      split <;> first | rfl | (exact absurd (by rw [e1]) e)
    · rfl
theorem GAt.setWhole (h : GAt gid dir C CN loc mm g H) {w' : List (Str × Int)} (hs : Small w') : GAt gid dir C CN loc mm { g with whole := w' } (upd H (loc (tG gid)) (tG gid, .dS (nums w'))) ∧ Frame gid H (upd H (loc (tG gid)) (tG gid, .dS (nums w'))) := by
  have f : Frame gid H (upd H (loc (tG gid)) (tG gid, .dS (nums w'))) := Frame.upd fun t o q => by rw [h.w] at q; cases q; rfl
  exact ⟨⟨(h.at_.upd (t := tG gid) (.dS (nums w')) (by simp [wantG])).weak (want_whole (w' := w')), h.att, ⟨h.wf.nod, h.wf.rng, h.wf.adjn, h.wf.adjI, h.wf.prdn, h.wf.prdI, h.wf.egk, h.wf.egc, h.wf.smN, h.wf.smE, hs⟩, h.nv_keep f (Same.refl _ _)⟩, f⟩
/-! ### a generator, iterated -/
theorem iter_gen {a : Addr} {t : Tag} {gi : Nat} {P : GenState → Prop} (h : H a = some (t, .gen gi P)) : IterOk nf c A H (.ref a) (fun it H' => it = a ∧ H' = H) := fun W s u ok r => by
  obtain rfl : u = .ref a := r
  exact wpN_of (wpAny_pyIter_gen (ok.isGen h) ⟨W, H, a, rfl, Post.refl ok, rfl, rfl⟩)
/-! ### a graph, pinned -/
def pinO (obs : Addr → Obj) (a : Addr) : AObj → AObj
  | .dI l => .pin (obs a) (.dI l)
  | o => o
def PinAt (gid : Nat) (dir : Bool) (C : Addr) (loc : Loc) (mm : List (Str × AV)) (g : GC) (obs : Addr → Obj) (H : AHeap) : Prop := ∀ t o, wantG gid dir C loc mm g t = some o → H (loc t) = some (t, pinO obs (loc t) o)
theorem At.pinG {want : Want} (h : At loc want H) (hn : ∀ t, want t ≠ none → t.own ≠ gid') (obs : Addr → Obj) : At loc want (pinG gid' obs H) := fun t o hw => by
  have h1 := h t o hw
  have h2 := hn t (by rw [hw]; exact fun z => nomatch z)
  unfold Nx.pinG
  rw [h1]
  cases o <;> first | rfl | (dsimp only; rw [if_neg h2])
theorem At.unpinG {want : Want} (h : At loc want H) (hn : ∀ t, want t ≠ none → t.own ≠ gid') : At loc want (unpinG gid' H) := fun t o hw => by
  have h1 := h t o hw
  have h2 := hn t (by rw [hw]; exact fun z => nomatch z)
  unfold Nx.unpinG
  rw [h1]
  cases o with
  | pin ob a => cases a <;> first | rfl | (dsimp only; rw [if_neg h2])
  | _ => rfl
theorem pinG_ne {obs : Addr → Obj} {a : Addr} {t : Tag} {o : AObj} (h : H a = some (t, o)) (hn : t.own ≠ gid') : pinG gid' obs H a = some (t, o) := by
  unfold Nx.pinG
  rw [h]
  cases o <;> first | rfl | (dsimp only; rw [if_neg hn])
theorem unpinG_ne {a : Addr} {t : Tag} {o : AObj} (h : H a = some (t, o)) (hn : t.own ≠ gid') : unpinG gid' H a = some (t, o) := by
  unfold Nx.unpinG
  rw [h]
  cases o with
  | pin ob a => cases a <;> first | rfl | (dsimp only; rw [if_neg hn])
  | _ => rfl
theorem GAt.pinG (h : GAt gid dir C CN loc mm g H) (hg : gid ≠ gid') (hv : vid gid ≠ gid') (obs : Addr → Obj) : GAt gid dir C CN loc mm g (pinG gid' obs H) :=
  ⟨h.at_.pinG (fun t ht => (wantG_own ht).symm ▸ hg) obs, h.att, h.wf, h.nv.imp id fun ⟨a, d, h1, h2, h3⟩ => ⟨a, d, h1, pinG_ne h2 hv, pinG_ne h3 hv⟩⟩
theorem GAt.unpinG (h : GAt gid dir C CN loc mm g H) (hg : gid ≠ gid') (hv : vid gid ≠ gid') : GAt gid dir C CN loc mm g (unpinG gid' H) :=
  ⟨h.at_.unpinG (fun t ht => (wantG_own ht).symm ▸ hg), h.att, h.wf, h.nv.imp id fun ⟨a, d, h1, h2, h3⟩ => ⟨a, d, h1, unpinG_ne h2 hv, unpinG_ne h3 hv⟩⟩
theorem GAt.pinned (h : GAt gid dir C CN loc mm g H) (obs : Addr → Obj) : PinAt gid dir C loc mm g obs (Nx.pinG gid obs H) := fun t o hw => by
  have h1 := h.at_ t o hw
  have h2 : t.own = gid := wantG_own (by rw [hw]; exact fun z => nomatch z)
  unfold Nx.pinG
  rw [h1]
  cases o <;> first | rfl | (dsimp only; rw [if_pos h2]; rfl)
theorem want_noPin {t : Tag} {ob : Obj} {a : AObj} (h : wantG gid dir C loc mm g t = some (.pin ob a)) : False := by
  unfold wantG at h
  split at h
  · split at h <;> first | (cases h; done) | (split at h <;> cases h; done) | (simp at h; done)
  · cases h
theorem PinAt.unpinned {obs : Addr → Obj} (h : PinAt gid dir C loc mm g obs H) : At loc (wantG gid dir C loc mm g) (unpinG gid H) := fun t o hw => by
  have h1 := h t o hw
  have h2 : t.own = gid := wantG_own (by rw [hw]; exact fun z => nomatch z)
  unfold Nx.unpinG
  rw [h1]
  cases o with
  | dI l => simp [pinO, h2]
  | pin ob a => exact (want_noPin hw).elim
  | _ => rfl
theorem PinAt.frame {obs : Addr → Obj} (h : PinAt gid dir C loc mm g obs H) (f : Frame gid' H H') (hg : gid ≠ gid') (h0 : gid ≠ xo) : PinAt gid dir C loc mm g obs H' := fun t o hw =>
  have h2 : t.own = gid := wantG_own (by rw [hw]; exact fun z => nomatch z)
  f _ _ _ (h t o hw) (by rw [h2]; exact hg) (by rw [h2]; exact h0)
section
variable {obs : Addr → Obj}
theorem PinAt.x (h : PinAt gid dir C loc mm g obs H) : H (loc (tX gid)) = some (tX gid, .inst C (loc (tD gid))) := h _ (.inst C (loc (tD gid))) (by simp [wantG])
theorem PinAt.d (h : PinAt gid dir C loc mm g obs H) : H (loc (tD gid)) = some (tD gid, .nS mm) := h _ (.nS mm) (by simp [wantG])
theorem PinAt.n (h : PinAt gid dir C loc mm g obs H) : H (loc (tN gid)) = some (tN gid, .pin (obs (loc (tN gid))) (.dI (refs (fun n => loc (tNd gid n)) g.keys))) := h _ (.dI (refs (fun n => loc (tNd gid n)) g.keys)) (by simp [wantG])
theorem PinAt.adj (h : PinAt gid dir C loc mm g obs H) : H (loc (tA gid)) = some (tA gid, .pin (obs (loc (tA gid))) (.dI (refs (fun n => loc (tAd gid n)) g.keys))) := h _ (.dI (refs (fun n => loc (tAd gid n)) g.keys)) (by simp [wantG])
theorem PinAt.nd (h : PinAt gid dir C loc mm g obs H) {n : Int} {a : List (Str × Int)} (hn : look g.nodes n = some a) : H (loc (tNd gid n)) = some (tNd gid n, .dS (nums a)) := h _ (.dS (nums a)) (by simp [wantG, hn])
theorem PinAt.ad (h : PinAt gid dir C loc mm g obs H) {n : Int} (hn : n ∈ g.keys) : H (loc (tAd gid n)) = some (tAd gid n, .pin (obs (loc (tAd gid n))) (.dI (refs (fun v => loc (tEd gid (ek dir n v))) (g.adj n)))) := h _ (.dI (refs (fun v => loc (tEd gid (ek dir n v))) (g.adj n))) (by simp [wantG, look_isSome.mpr hn])
theorem PinAt.ed (h : PinAt gid dir C loc mm g obs H) {k : Int × Int} {a : List (Str × Int)} (hk : g.eg k = some a) : H (loc (tEd gid k)) = some (tEd gid k, .dS (nums a)) := h _ (.dS (nums a)) (by simp [wantG, hk])
end
end
/-! ### what a copy is -/
def rowsOf (dir : Bool) (g : GC) : List URow := g.keys.map fun u => (u, (g.adj u).map fun v => (v, (g.eg (ek dir u v)).getD []))
def GC.copyOf (dir : Bool) (g : GC) : GC := (({ GC.empty with whole := mergeA [] g.whole } : GC).rows [] (g.nodes.map fun p => (p.1, some p.2))).edges dir [] (flat (rowsOf dir g))
end Nx
end
section
set_option autoImplicit false
namespace Nx
section
variable {nf : Bool} {c : Cx} {A : Around} {H H' : AHeap} {gid sid : Nat}
theorem IterOk.mono {v : AV} {P P' : Addr → AHeap → Prop} (h : IterOk nf c A H v P) (k : ∀ it H', P it H' → P' it H') : IterOk nf c A H v P' := fun W s u ok r =>
  wpN_mono (h W s u ok r) (fun _ _ ⟨W', H', it, e, p, q⟩ => ⟨W', H', it, e, p, k _ _ q⟩) fun _ _ z => z
theorem Src.item {k n : Nat} {it : Addr} {item item' : Nat → AV → AHeap → Prop} {Inv : Nat → AHeap → Prop} (h : Src c k gid sid it n item Inv) (hi : ∀ i x H, item i x H → item' i x H) : Src c k gid sid it n item' Inv :=
  ⟨fun A i H rm hlt hI => (h.step A i H rm hlt hI).mono fun r H' ⟨x, e, z, a, b⟩ => ⟨x, e, hi _ _ _ z, a, b⟩, h.fin, h.stab⟩
theorem NInv.frame {C It dN : Addr} {l : List (Int × AV)} {ob : Obj} {tN : Tag} {Fa : AHeap → Prop} {i : Nat} (h : NInv sid C It dN l ob tN Fa i H) (f : Frame gid H H') (hs : sid ≠ gid) (hs0 : sid ≠ xo) (ht : tN.own ≠ gid) (ht0 : tN.own ≠ xo) (hF : Fa H → Fa H') : NInv sid C It dN l ob tN Fa i H' := by
  obtain ⟨⟨m, h1⟩, h2, h3, h4⟩ := h
  exact ⟨⟨m, f _ _ _ h1 hs hs0⟩, f _ _ _ h2 hs hs0, f _ _ _ h3 ht ht0, hF h4⟩
theorem NInv.keeps {C It dN : Addr} {l : List (Int × AV)} {ob : Obj} {tN : Tag} {Fa : AHeap → Prop} {i : Nat} (h : NInv sid C It dN l ob tN Fa i H) (f : Keeps H H') (hs0 : sid ≠ xo) (ht0 : tN.own ≠ xo) (hF : Fa H → Fa H') : NInv sid C It dN l ob tN Fa i H' := by
  obtain ⟨⟨m, h1⟩, h2, h3, h4⟩ := h
  exact ⟨⟨m, f _ _ _ h1 hs0⟩, f _ _ _ h2 hs0, f _ _ _ h3 ht0, hF h4⟩
theorem NInv.gen {C It dN a : Addr} {l : List (Int × AV)} {ob : Obj} {tN : Tag} {Fa : AHeap → Prop} {i gi : Nat} (h : NInv sid C It dN l ob tN Fa i H) {P0 : GenState → Prop} (ha : H a = some (tgG sid, .gen gi P0)) (htN : tN.own ≠ sid) (ht0 : tN.own ≠ xo) (P : GenState → Prop) (hF : ∀ H', Frame sid H H' → Fa H → Fa H') : NInv sid C It dN l ob tN Fa i (upd H a (tgG sid, .gen gi P)) := by
  obtain ⟨⟨m, h1⟩, h2, h3, h4⟩ := h
  have f : Frame sid H (upd H a (tgG sid, .gen gi P)) := Frame.upd fun t o q => by rw [ha] at q; cases q; rfl
  exact ⟨⟨m, upd_of (ne_tag h1 ha (by simp)) h1⟩, upd_of (ne_tag h2 ha (by simp)) h2, f _ _ _ h3 htN ht0, hF _ f h4⟩
theorem src_nodes {gi : Nat} {a C It dN : Addr} {l : List (Int × AV)} {ob : Obj} {tN : Tag} {Fa : AHeap → Prop} {es : List (Int × List (Str × Int))} (hs : sid ≠ gid) (hs0 : sid ≠ xo) (h2 : sid ≠ gid + 2000) (ht : tN.own ≠ sid) (htg : tN.own ≠ gid) (ht0 : tN.own ≠ xo)
    (hF : ∀ H H', Fa H → Frame sid H H' → Fa H') (hFg : ∀ H H', Fa H → Frame gid H H' → Fa H') :
    Src c 2 gid sid a (es.map fun p => ((p.1, some p.2) : NRow)).length (nItem (es.map fun p => (p.1, some p.2)) gid) (fun i H => H a = some (tgG sid, .gen gi (GLife c 1 a (tgG sid) gi sid (NInv sid C It dN l ob tN Fa) (nOut es sid) (es.length - i) i)) ∧ NInv sid C It dN l ob tN Fa i H) := by
  rw [List.length_map]
  refine Src.item (item := nOut es sid) (src_gen (t := tgG sid) rfl hs hs0 (by omega) (fun i H P h ha => ?_) (fun i x H P h ha => ?_) (fun i H H' h f => h.frame f hs hs0 htg ht0 fun h => hFg _ _ h f)) (fun i x H h => ?_)
  · rcases ha with ha | ⟨P0, ha⟩
    · exact h.gen ha ht ht0 P fun H' f h => hF _ _ h f
    · exact h.gen ha ht ht0 P fun H' f h => hF _ _ h f
  · obtain ⟨n, more, dd, e1, e2, e3⟩ := h
    exact ⟨n, more, dd, e1, e2, upd_of (ne_tag e3 ha (by simp)) e3⟩
  · obtain ⟨n, more, dd, e1, rfl, e3⟩ := h
    exact ⟨n, some more, by rw [List.getElem?_map, e1]; rfl, dd, _, rfl, e3, hs, hs0, h2⟩
/-! the same for edges -/
variable {P : EPar}
theorem EPar.Inv.frame {x : ESt} (h : P.Inv x H) (f : Frame gid H H') (hs : P.sid ≠ gid) (hs0 : P.sid ≠ xo) (ht : P.tA.own ≠ gid) (ht0 : P.tA.own ≠ xo) (hF : P.Fa H → P.Fa H') : P.Inv x H' := by
  cases x with
  | out o =>
    obtain ⟨⟨m, h1⟩, h2, h3, h4⟩ := h
    exact ⟨⟨m, f _ _ _ h1 hs hs0⟩, f _ _ _ h2 hs hs0, f _ _ _ h3 ht ht0, hF h4⟩
  | inn o u r It2 j =>
    obtain ⟨⟨m, h1, hu⟩, h2, h3, h4, h5, h6, h7⟩ := h
    exact ⟨⟨m, f _ _ _ h1 hs hs0, hu⟩, f _ _ _ h2 hs hs0, f _ _ _ h3 ht ht0, hF h4, h5, h6, f _ _ _ h7 hs hs0⟩
theorem EPar.Inv.gen {x : ESt} (h : P.Inv x H) {gi : Nat} {P0 : GenState → Prop} {a : Addr} (ha : H a = some (tgG P.sid, .gen gi P0)) (hP : P.Ok) (Q : GenState → Prop) : P.Inv x (upd H a (tgG P.sid, .gen gi Q)) := by
  have f : Frame P.sid H (upd H a (tgG P.sid, .gen gi Q)) := Frame.upd fun t o q => by rw [ha] at q; cases q; rfl
  cases x with
  | out o =>
    obtain ⟨⟨m, h1⟩, h2, h3, h4⟩ := h
    exact ⟨⟨m, upd_of (ne_tag h1 ha (by simp)) h1⟩, upd_of (ne_tag h2 ha (by simp)) h2, f _ _ _ h3 hP.tA hP.tA0, hP.fr _ _ h4 f⟩
  | inn o u r It2 j =>
    obtain ⟨⟨m, h1, hu⟩, h2, h3, h4, h5, h6, h7⟩ := h
    exact ⟨⟨m, upd_of (ne_tag h1 ha (by simp)) h1, hu⟩, upd_of (ne_tag h2 ha (by simp)) h2, f _ _ _ h3 hP.tA hP.tA0, hP.fr _ _ h4 f, h5, h6, upd_of (ne_tag h7 ha (by simp)) h7⟩
theorem src_edges (hP : P.Ok) (hs : P.sid ≠ gid) (hs0 : P.sid ≠ xo) (htg : P.tA.own ≠ gid) (hFg : ∀ H H', P.Fa H → Frame gid H H' → P.Fa H') :
    Src c 2 gid P.sid P.a (flat P.rows).length (eItem (flat P.rows) gid) (fun i H => ∃ x, H P.a = some (tgG P.sid, .gen P.gi (GLifeS c 1 P.a (tgG P.sid) P.gi P.sid P.Inv (eOut (flat P.rows) P.sid) ((flat P.rows).length - i) i x)) ∧ P.Inv x H) := by
  refine Src.item (item := eOut (flat P.rows) P.sid) (src_genS (t := tgG P.sid) rfl hs hs0 (by omega) (fun i H Q h ha => ?_) (fun i x H Q h ha => ?_) (fun i H H' h f => h.frame f hs hs0 htg hP.tA0 fun h => hFg _ _ h f)) (fun i x H h => ?_)
  · rcases ha with ha | ⟨P0, ha⟩
    · exact h.gen ha hP Q
    · exact h.gen ha hP Q
  · obtain ⟨u, v, more, dd, e1, e2, e3⟩ := h
    exact ⟨u, v, more, dd, e1, e2, upd_of (ne_tag e3 ha (by simp)) e3⟩
  · obtain ⟨u, v, more, dd, e1, rfl, e3⟩ := h
    exact ⟨u, v, more, dd, _, e1, rfl, e3, hs, hs0⟩
end
end Nx
end
section
set_option autoImplicit false
namespace Nx
abbrev sCp := gB 35
/-- a method of a graph, that puts rows of vertices in -/
def AddNodes (c : Cx) (dir : Bool) (C CN : Addr) : Prop := ∃ f, MethIs c C "add_nodes_from" f ∧ KeepOk c (.ref f) ∧ ∀ (nf : Bool) (A : Around) (H : AHeap) (gid j sid : Nat) (loc : Loc) (mm : List (Str × AV)) (g : GC) (kw : List (Str × Int)) (es : List NRow) (src : AV), Rm A (j + 2) → GAt gid dir C CN loc mm g H → Kw1 kw → (∀ e ∈ es, NRowOk e) → sid ≠ gid → vid gid ≠ sid → gid + 1000 ≠ sid → gid ≠ xo →
    (∀ A' H', Rm A' (j + 1) → Frame gid H H' → IterOk nf c A' H' src (fun it H'' => ∃ Inv, Src c (j + 1) gid sid it es.length (nItem es gid) Inv ∧ (∀ i H1 H2, Inv i H1 → Keeps H1 H2 → Inv i H2) ∧ Inv 0 H'' ∧ Frame sid H' H'')) →
    CallOk nf c A H (.ref f) [.ref (loc (tX gid)), src] (nums kw) (fun r H' => r = .none ∧ ∃ loc', GAt gid dir C CN loc' mm (g.rows kw es) H' ∧ Same gid loc loc' ∧ Frame2 gid sid H H') (fun _ _ => False)
def AddEdges (c : Cx) (dir : Bool) (C CN : Addr) : Prop := ∃ f, MethIs c C "add_edges_from" f ∧ KeepOk c (.ref f) ∧ ∀ (nf : Bool) (A : Around) (H : AHeap) (gid j sid : Nat) (loc : Loc) (mm : List (Str × AV)) (g : GC) (kw : List (Str × Int)) (es : List ERow) (src : AV), Rm A (j + 2) → GAt gid dir C CN loc mm g H → Kw1 kw → (∀ e ∈ es, ERowOk e) → sid ≠ gid → vid gid ≠ sid → gid + 1000 ≠ sid → gid ≠ xo →
    (∀ A' H', Rm A' (j + 1) → Frame gid H H' → IterOk nf c A' H' src (fun it H'' => ∃ Inv, Src c (j + 1) gid sid it es.length (eItem es gid) Inv ∧ Inv 0 H'' ∧ Frame sid H' H'')) →
    CallOk nf c A H (.ref f) [.ref (loc (tX gid)), src] (nums kw) (fun r H' => r = .none ∧ ∃ loc', GAt gid dir C CN loc' mm (g.edges dir kw es) H' ∧ Same gid loc loc' ∧ Frame2 gid sid H H') (fun _ _ => False)
def Fresh (c : Cx) (dir : Bool) (C CN : Addr) : Prop := ∃ f, MethIs c C "fresh" f ∧ KeepOk c (.ref f) ∧ ∀ (nf : Bool) (A : Around) (H : AHeap) (gid : Nat) (x : AV), Rm A 4 → CallOk nf c A H (.ref f) [x] [] (fun v H' => ∃ (loc : Loc) (mm : List (Str × AV)), v = .ref (loc (tX gid)) ∧ look mm "nodes" = none ∧ look mm "adj" = none ∧ GAt gid dir C CN loc mm GC.empty H' ∧ Frame gid H H') (fun _ _ => False)
section
variable {nf : Bool} {c : Cx} {A : Around} {H : AHeap} {gid gid0 sid : Nat} {dir : Bool} {C CN : Addr} {loc0 : Loc} {mm0 : List (Str × AV)} {g0 : GC}
def Apart (gid gid0 sid : Nat) : Prop := gid ≠ gid0 ∧ vid gid ≠ gid0 ∧ vid gid0 ≠ gid ∧ vid gid0 ≠ sid ∧ vid gid ≠ sid ∧ sid ≠ gid ∧ sid ≠ gid0 ∧ sid ≠ xo ∧ gid ≠ xo ∧ gid0 ≠ xo ∧ gid + 1000 ≠ sid ∧ sid ≠ gid + 2000 ∧ gid + 1000 ≠ gid0 ∧ gid + 2000 ≠ gid0
/-- the second half of copy -/
theorem copy_tail {f T : Addr} {q : Addr × Addr} {L : Addr} (hf : FnIs c f "Graph.copy" (fpars sCp) (fbody sCp) (fscope sCp) (.ref T) .none (.ref q.1)) (hq : q ∈ c.tabs) (k : Kls c dir C CN) (hAE : AddEdges c dir C CN) (hap : Apart gid gid0 sid) {A : Around} (rm : Rm (A.deeper (envOf "Graph.copy" (fscope sCp) L f (.ref q.1))) 5) (hg : GAt gid0 dir C CN loc0 mm0 g0 H)
    {loc loc7 : Loc} {mm : List (Str × AV)} {m : LM} {H7 : AHeap} {obs : Addr → Obj} (hs7 : loc7 (tX gid) = loc (tX gid)) (hmG : m "self" = some (.ref (loc0 (tX gid0))) ∧ m "G" = some (.ref (loc (tX gid)))) (hm1 : look mm "nodes" = none)
    (hG7 : GAt gid dir C CN loc7 mm (({ GC.empty with whole := mergeA [] g0.whole } : GC).rows [] (g0.nodes.map fun p => (p.1, some p.2))) H7) (hp7 : PinAt gid0 dir C loc0 mm0 g0 obs H7)
    (f07 : ∀ b t o, H b = some (t, o) → t.own ≠ gid → t.own ≠ sid → t.own ≠ xo → t.own ≠ gid0 → H7 b = some (t, o))
    (hnv7 : look mm0 "nodes" = none ∨ ∃ a d, look mm0 "nodes" = some (.ref a) ∧ H7 a = some (tV gid0, .slot1 CN d (.ref (loc0 (tN gid0)))) ∧ H7 d = some (tW gid0, .nS [])) :
    AS nf c (A.deeper (envOf "Graph.copy" (fscope sCp) L f (.ref q.1))) (envOf "Graph.copy" (fscope sCp) L f (.ref q.1)) m H7 [pick (fbody sCp) 3, pick (fbody sCp) 4]
      (fun fl _ H' => ∃ (loc : Loc) (mm : List (Str × AV)), (match fl with | .ret v => v | _ => .none) = .ref (loc (tX gid)) ∧ look mm "nodes" = none ∧ GAt gid dir C CN loc mm (g0.copyOf dir) H' ∧ GAt gid0 dir C CN loc0 mm0 g0 H' ∧
      (∀ b t o, H b = some (t, o) → t.own ≠ gid → t.own ≠ sid → t.own ≠ xo → t.own ≠ gid0 → H' b = some (t, o))) (fun _ _ _ => False) := by
  obtain ⟨a1, a2, a3, a4, a5, a6, a7, a8, a9, a10, a11, a12, a13, a14⟩ := hap
  obtain ⟨hmS, hmG⟩ := hmG
  obtain ⟨fE, hEm, hEk, hEc⟩ := hAE
  have hwf := hg.wf
  have hk : (rowsOf dir g0).map (·.1) = g0.keys := by unfold rowsOf; rw [List.map_map]; exact List.map_id _
  refine as_cons (a1_expr (ae_meth (names := []) (pe_name (by rw [hs7]; exact hmG)) hG7.x hG7.d hEm (hG7.att.other _ (by decide)) hEk (al_cons ?_)))
  let PP : Addr → Addr → Addr → Nat → EPar := fun It C' a gi => ⟨sid, gi, a, C', It, loc0 (tA gid0), tA gid0, obs (loc0 (tA gid0)), rowsOf dir g0, fun u => loc0 (tAd gid0 u), fun u v => loc0 (tEd gid0 (ek dir u v)), fun u => obs (loc0 (tAd gid0 u)), PinAt gid0 dir C loc0 mm0 g0 obs⟩
  have row : ∀ (i : Nat) (u : Int) (r : List (Int × List (Str × Int))), (rowsOf dir g0)[i]? = some (u, r) → u ∈ g0.keys ∧ r = (g0.adj u).map fun v => (v, (g0.eg (ek dir u v)).getD []) := by
    intro i u r h
    unfold rowsOf at h
    rw [List.getElem?_map] at h
    obtain ⟨u', h1, h2⟩ := Option.map_eq_some_iff.mp h
    cases h2
    exact ⟨List.mem_of_getElem? h1, rfl⟩
  have hOk : ∀ It C' a gi, (PP It C' a gi).Ok := fun It C' a gi => by
    refine ⟨Ne.symm a7, a10, fun H H' h f => h.frame f (Ne.symm a7) a10, fun H i u r h hi => ?_, fun H i u r j v more h hi hj => ?_⟩
    · obtain ⟨hu, rfl⟩ := row i u r hi
      refine ⟨tAd gid0 u, ?_, Ne.symm a7, a10⟩
      have := h.ad hu
      rw [List.map_map]
      show H (loc0 (tAd gid0 u)) = some (_, .pin _ (.dI (refs _ ((g0.adj u).map id))))
      rw [List.map_id]
      exact this
    · obtain ⟨hu, rfl⟩ := row i u r hi
      rw [List.getElem?_map] at hj
      obtain ⟨v', h1, h2⟩ := Option.map_eq_some_iff.mp hj
      cases h2
      have hsome := (hwf.adjI u v).mp (List.mem_of_getElem? h1)
      obtain ⟨x, hx⟩ := Option.isSome_iff_exists.mp hsome
      refine ⟨tEd gid0 (ek dir u v), ?_, Ne.symm a7, a10⟩
      rw [hx]
      exact h.ed hx
  refine ae_genexp (tgC sid) (tgG sid) (fun It C' a gi => GLifeS c 1 a (tgG sid) gi sid (PP It C' a gi).Inv (eOut (flat (rowsOf dir g0)) sid) (flat (rowsOf dir g0)).length 0 (.out 0)) rm.room hq rfl ?_ ?_
  · refine ae_bmeth F.slot_dict_items F.plainAttrs_dict F.type_dict_items (a := .ref (loc0 (tA gid0))) (pe_own k (pe_name hmS) hp7.x hp7.d hg.att.a) (plainly_pin hp7.adj) (al_nil ?_)
    refine CallOk.mono (call_items_pin ⟨sid, 7, []⟩ hp7.adj) ?_ fun _ _ z => z
    rintro v H8 ⟨dv, hdv, rfl, rfl⟩
    refine (iter_items_pin (tgI sid) upd_same (upd_new hdv hp7.adj)).mono ?_
    rintro It H9 ⟨hIt, rfl⟩ C' a gi hC' ha hne
    have hlen : (refs (fun n => loc0 (tAd gid0 n)) g0.keys).length = (rowsOf dir g0).length := by rw [refs_length, ← hk, List.length_map]
    generalize hHc : upd (upd (upd H7 dv (⟨sid, 7, []⟩, viewOf (loc0 (tA gid0)))) It (tgI sid, .itm (loc0 (tA gid0)) 0 (refs (fun n => loc0 (tAd gid0 n)) g0.keys).length (epOf (obs (loc0 (tA gid0)))))) C' (tgC sid, .loc (dot0 It)) = Hc
    have fc : Frame sid H7 Hc := by rw [← hHc]; exact ((Frame.new hdv).trans (Frame.new hIt)).trans (Frame.new hC')
    have hac : Hc a = none := by rw [← hHc]; exact (upd_ne (Ne.symm hne)).trans ha
    have f5 : Frame sid H7 (upd Hc a (tgG sid, .gen gi (GLifeS c 1 a (tgG sid) gi sid (PP It C' a gi).Inv (eOut (flat (rowsOf dir g0)) sid) (flat (rowsOf dir g0)).length 0 (.out 0)))) := fc.trans (Frame.new hac)
    have ha6 := upd_same (H := Hc) (a := a) (x := (tgG sid, .gen gi (GLifeS c 1 a (tgG sid) gi sid (PP It C' a gi).Inv (eOut (flat (rowsOf dir g0)) sid) (flat (rowsOf dir g0)).length 0 (.out 0))))
    have hIc : Hc It = some (tgI sid, .itm (loc0 (tA gid0)) 0 (rowsOf dir g0).length (epOf (obs (loc0 (tA gid0))))) := by rw [← hHc, ← hlen]; exact upd_new hC' upd_same
    have hCc : Hc C' = some (tgC sid, .loc (dot0 It)) := by rw [← hHc]; exact upd_same
    have hn6 : (PP It C' a gi).Inv (.out 0) (upd Hc a (tgG sid, .gen gi (GLifeS c 1 a (tgG sid) gi sid (PP It C' a gi).Inv (eOut (flat (rowsOf dir g0)) sid) (flat (rowsOf dir g0)).length 0 (.out 0)))) := by
      refine ⟨⟨_, upd_of hne hCc⟩, upd_new hac hIc, ?_, hp7.frame f5 (Ne.symm a7) a10⟩
      show upd Hc a _ (loc0 (tA gid0)) = some (tA gid0, .pin (obs (loc0 (tA gid0))) (.dI (refs (fun u => loc0 (tAd gid0 u)) ((rowsOf dir g0).map (·.1)))))
      rw [hk]
      exact f5 _ _ _ hp7.adj (Ne.symm a7) a10
    have hG6 := hG7.frame f5 (Ne.symm a6) a5 a9
    have hp6 := hp7.frame f5 (Ne.symm a7) a10
    generalize upd Hc a (tgG sid, .gen gi (GLifeS c 1 a (tgG sid) gi sid (PP It C' a gi).Inv (eOut (flat (rowsOf dir g0)) sid) (flat (rowsOf dir g0)).length 0 (.out 0))) = H6 at f5 ha6 hn6 hG6 hp6 ⊢
    refine al_nil ⟨[], kw_nil, rfl, ?_⟩
    refine CallOk.mono (hEc nf _ H6 gid 1 sid loc7 mm _ [] (flat (rowsOf dir g0)) (.ref a) (rm.less (by omega)) hG6 (.inl rfl) ?_ a6 a5 a11 a9 ?_) ?_ fun _ _ z => z.elim
    · intro e he
      obtain ⟨⟨u, r⟩, hm, he⟩ := List.mem_flatMap.mp he
      obtain ⟨⟨v, more⟩, hm2, rfl⟩ := List.mem_map.mp he
      obtain ⟨i, hi⟩ := List.mem_iff_getElem?.mp hm
      obtain ⟨hu, rfl⟩ := row i u r hi
      obtain ⟨v', h1, h2⟩ := List.mem_map.mp hm2
      cases h2
      have hv := (hwf.adjk h1).2
      have hsome := (hwf.adjI u v).mp h1
      obtain ⟨x, hx⟩ := Option.isSome_iff_exists.mp hsome
      have r1 := hwf.rng u hu
      have r2 := hwf.rng v hv
      exact ⟨r1.1, r1.2, r2.1, r2.2, by show Small ((g0.eg (ek dir u v)).getD []); rw [hx]; exact hwf.smE _ _ hx⟩
    · intro A' H7' rA f8
      have ha7 := f8 _ _ _ ha6 a6 a8
      have hn7 := hn6.frame f8 a6 a8 (Ne.symm a1) a10 (fun h => h.frame f8 (Ne.symm a1) a10)
      refine (iter_gen ha7).mono ?_
      rintro it H8 ⟨rfl, rfl⟩
      exact ⟨_, src_edges (hOk It C' it gi) a6 a8 (Ne.symm a1) (fun H H' h f => h.frame f (Ne.symm a1) a10), ⟨_, ha7, hn7⟩, Frame.refl _ _⟩
    · rintro v H8 ⟨rfl, loc8, hG8, s8, f8⟩
      refine ⟨rfl, AS.unpinG gid0 ?_⟩
      have hp8 : PinAt gid0 dir C loc0 mm0 g0 obs H8 := fun t o hw => by
        have h2 : t.own = gid0 := wantG_own (by rw [hw]; exact fun z => nomatch z)
        exact f8 _ _ _ (hp6 t o hw) (by rw [h2]; exact Ne.symm a1) (by rw [h2]; exact Ne.symm a7) (by rw [h2]; exact a10)
      have hs8 : loc8 (tX gid) = loc (tX gid) := (s8 (tX gid) rfl (by simp)).trans hs7
      refine as_cons (a1_return (v := .ref (loc (tX gid))) (pe_name hmG) ⟨loc8, mm, by rw [hs8], hm1, hG8.unpinG a1 a2, ⟨hp8.unpinned, hg.att, hwf, hnv7.imp id fun ⟨a', d, h1, h2, h3⟩ => ⟨a', d, h1, unpinG_ne (f8 _ _ _ (f5 _ _ _ h2 a4 (by simp [vid])) a3 a4 (by simp [vid])) (by simp [vid]), unpinG_ne (f8 _ _ _ (f5 _ _ _ h3 a4 (by simp [vid])) a3 a4 (by simp [vid])) (by simp [vid])⟩⟩, fun b t o hb n1 n2 n3 n4 => unpinG_ne (f8 _ _ _ (f5 _ _ _ (f07 b t o hb n1 n2 n3 n4) n2 n3) n1 n2 n3) n4⟩)
  · intro It C' a gi code
    refine' edges_life (P := PP It C' a gi) ?he (hOk It C' a gi) ?hE ?hu ?hb ?hv ?hd ?hc ?hi2 ?hfo _ _ _ _ ?hrem ?hi ⟨rfl, ?hst⟩
    case hst => exact rfl
    case he => exact rfl
    case hE => exact ⟨rfl, rfl, rfl, rfl⟩
    case hu => rfl
    case hb => rfl
    case hv => rfl
    case hd => rfl
    case hc => exact ⟨_, rfl⟩
    case hi2 => exact ⟨_, rfl⟩
    case hfo => intro _; rfl
    case hrem => rfl
    case hi => rfl
theorem copy_ok {f T : Addr} {oT : Obj} {nT : Nat} {q : Addr × Addr} (hf : FnIs c f "Graph.copy" (fpars sCp) (fbody sCp) (fscope sCp) (.ref T) .none (.ref q.1)) (hq : q ∈ c.tabs) (hT : c.K.lookup T = some oT) (hTd : oT.data = .seq #[.bool false] nT)
    (k : Kls c dir C CN) (hFr : Fresh c dir C CN) (hAN : AddNodes c dir C CN) (hAE : AddEdges c dir C CN) (hap : Apart gid gid0 sid) (rm : Rm A 6) (hg : GAt gid0 dir C CN loc0 mm0 g0 H) :
    CallOk nf c A H (.ref f) [.ref (loc0 (tX gid0))] [] (fun v H' => ∃ (loc : Loc) (mm : List (Str × AV)), v = .ref (loc (tX gid)) ∧ look mm "nodes" = none ∧ GAt gid dir C CN loc mm (g0.copyOf dir) H' ∧ GAt gid0 dir C CN loc0 mm0 g0 H' ∧
      (∀ b t o, H b = some (t, o) → t.own ≠ gid → t.own ≠ sid → t.own ≠ xo → t.own ≠ gid0 → H' b = some (t, o))) (fun _ _ => False) := by
  refine call_fn (P := fun ab H' => ab = ([("self", .ref (loc0 (tX gid0))), ("as_view", .bool false)] : List (Str × AV)) ∧ H' = H) hf rfl rm.room ?_ ?_ ?_
  · intro name doc pm an ct W s vs kvs ok h1 h2
    cases h2
    cases h1 with | cons r1 h1 => cases h1 with | nil =>
    rename_i v1
    refine BindsTo.of_defaults (binds := [("self", v1), ("as_view", .bool false)]) rfl (ok.kin _ _ hT) hTd rfl rfl _ _ _ _ ⟨W, H, _, Post.refl ok, ?_, rfl, rfl⟩
    exact .cons ⟨rfl, r1⟩ (.cons ⟨rfl, VR.bool'⟩ .nil)
  · rintro ab H' ⟨rfl, rfl⟩
    rfl
  · rintro L ab H' ⟨rfl, rfl⟩ hL
    have rm' := rm.deeper (envOf "Graph.copy" (fscope sCp) L f (.ref q.1))
    obtain ⟨a1, a2, a3, a4, a5, a6, a7, a8, a9, a10, a11, a12, a13, a14⟩ := hap
    obtain ⟨fF, hFm, hFk, hFc⟩ := hFr
    have hnone : look mm0 "fresh" = none := hg.att.other _ (by decide)
    -- G = self.fresh()
    refine as_cons (a1_assignE (ae_meth (names := []) (pe_name rfl) hg.x hg.d hFm hnone hFk (al_nil ⟨[], kw_nil, rfl, ?_⟩)))
    refine CallOk.mono (hFc nf _ H' gid _ (rm'.less (by omega))) ?_ fun _ _ z => z.elim
    rintro v H1 ⟨loc, mm, rfl, hm1, hm2, hG1, f1⟩
    have hg1 := hg.frame f1 (Ne.symm a1) a3 a10
    -- G.graph.update(self.graph)
    refine as_cons (a1_expr (ae_bmeth F.slot_dict_update F.plainAttrs_dict F.type_dict_update (a := .ref (loc (tG gid))) (pe_own k (pe_name rfl) hG1.x hG1.d hG1.att.g) (plainly_dS hG1.w) ?_))
    refine al_cons (ae_pe (v := .ref (loc0 (tG gid0))) (pe_own k (pe_name rfl) hg1.x hg1.d hg1.att.g) (al_nil ?_))
    have hsw := hg.wf.smW
    have hwl := hsw.length
    refine CallOk.mono (call_update hG1.w hg1.w (ne_tag hG1.w hg1.w (by simp; omega)) (by have := mergeA_length (nums g0.whole) (nums GC.empty.whole); simp only [nums_length] at this; simp [GC.empty] at this ⊢; omega)) ?_ fun _ _ z => z
    rintro v H2 ⟨rfl, rfl⟩
    refine ⟨rfl, ?_⟩
    rw [merge_nums, show GC.empty.whole = ([] : List (Str × Int)) from rfl]
    obtain ⟨hG2, f2⟩ := hG1.setWhole (w' := mergeA [] g0.whole) (Small.nil.merge hsw.2)
    have hg2 := hg1.frame f2 (Ne.symm a1) a3 a10
    have f02 := f1.trans f2
    generalize upd H1 (loc (tG gid)) (tG gid, .dS (nums (mergeA [] g0.whole))) = H2 at hG2 hg2 f02 ⊢
    refine AS.pinG gid0 fun obs => ?_
    have hG3 := hG2.pinG (obs := obs) a1 a2
    have hp := hg2.pinned obs
    have f03 : ∀ b t o, H' b = some (t, o) → t.own ≠ gid → t.own ≠ sid → t.own ≠ xo → t.own ≠ gid0 → pinG gid0 obs H2 b = some (t, o) := fun b t o hb n1 n2 n3 n4 => pinG_ne (f02 _ _ _ hb n1 n3) n4
    have hnv3 : look mm0 "nodes" = none ∨ ∃ a d, look mm0 "nodes" = some (.ref a) ∧ pinG gid0 obs H2 a = some (tV gid0, .slot1 CN d (.ref (loc0 (tN gid0)))) ∧ pinG gid0 obs H2 d = some (tW gid0, .nS []) := hg2.nv.imp id fun ⟨a, d, h1, h2, h3⟩ => ⟨a, d, h1, pinG_ne h2 (by simp [vid]), pinG_ne h3 (by simp [vid])⟩
    generalize pinG gid0 obs H2 = H3 at hG3 hp f03 hnv3 ⊢
    -- G.add_nodes_from(..)
    obtain ⟨fN, hNm, hNk, hNc⟩ := hAN
    have hkeys : g0.keys = g0.nodes.map (·.1) := rfl
    have hFd : ∀ (H : AHeap) (i : Nat) (n : Int) (more : List (Str × Int)), PinAt gid0 dir C loc0 mm0 g0 obs H → g0.nodes[i]? = some (n, more) → ∃ td, H (loc0 (tNd gid0 n)) = some (td, .dS (nums more)) ∧ td.own ≠ sid ∧ td.own ≠ xo := fun H i n more hp hi =>
      ⟨_, hp.nd (look_of_mem hg.wf.nod (List.mem_of_getElem? hi)), Ne.symm a7, a10⟩
    refine as_cons (a1_expr (ae_meth (names := []) (pe_name rfl) hG3.x hG3.d hNm (hG3.att.other _ (by decide)) hNk (al_cons ?_)))
    refine ae_genexp (tgC sid) (tgG sid) (fun It C' a gi => GLife c 1 a (tgG sid) gi sid (NInv sid C' It (loc0 (tN gid0)) (refs (fun n => loc0 (tNd gid0 n)) (g0.nodes.map (·.1))) (obs (loc0 (tN gid0))) (tN gid0) (PinAt gid0 dir C loc0 mm0 g0 obs)) (nOut g0.nodes sid) g0.nodes.length 0) rm'.room hq rfl ?_ ?_
    · refine ae_bmeth F.slot_dict_items F.plainAttrs_dict F.type_dict_items (a := .ref (loc0 (tN gid0))) (pe_own k (pe_name rfl) hp.x hp.d hg.att.n) (plainly_pin hp.n) (al_nil ?_)
      refine CallOk.mono (call_items_pin ⟨sid, 7, []⟩ hp.n) ?_ fun _ _ z => z
      rintro v H4 ⟨dv, hdv, rfl, rfl⟩
      refine (iter_items_pin (tgI sid) upd_same (upd_new hdv hp.n)).mono ?_
      rintro It H5 ⟨hIt, rfl⟩ C' a gi hC' ha hne
      have f5 : Frame sid H3 (upd (upd (upd (upd H3 dv (⟨sid, 7, []⟩, viewOf (loc0 (tN gid0)))) It (tgI sid, .itm (loc0 (tN gid0)) 0 (refs (fun n => loc0 (tNd gid0 n)) g0.keys).length (epOf (obs (loc0 (tN gid0)))))) C' (tgC sid, .loc (dot0 It))) a (tgG sid, .gen gi (GLife c 1 a (tgG sid) gi sid (NInv sid C' It (loc0 (tN gid0)) (refs (fun n => loc0 (tNd gid0 n)) (g0.nodes.map (·.1))) (obs (loc0 (tN gid0))) (tN gid0) (PinAt gid0 dir C loc0 mm0 g0 obs)) (nOut g0.nodes sid) g0.nodes.length 0))) :=
        (((Frame.new hdv).trans (Frame.new hIt)).trans (Frame.new hC')).trans (Frame.new ((upd_ne (Ne.symm hne)).trans ha))
      have ha6 := upd_same (H := upd (upd (upd H3 dv (⟨sid, 7, []⟩, viewOf (loc0 (tN gid0)))) It (tgI sid, .itm (loc0 (tN gid0)) 0 (refs (fun n => loc0 (tNd gid0 n)) g0.keys).length (epOf (obs (loc0 (tN gid0)))))) C' (tgC sid, .loc (dot0 It))) (a := a) (x := (tgG sid, .gen gi (GLife c 1 a (tgG sid) gi sid (NInv sid C' It (loc0 (tN gid0)) (refs (fun n => loc0 (tNd gid0 n)) (g0.nodes.map (·.1))) (obs (loc0 (tN gid0))) (tN gid0) (PinAt gid0 dir C loc0 mm0 g0 obs)) (nOut g0.nodes sid) g0.nodes.length 0)))
      have hn6 : NInv sid C' It (loc0 (tN gid0)) (refs (fun n => loc0 (tNd gid0 n)) (g0.nodes.map (·.1))) (obs (loc0 (tN gid0))) (tN gid0) (PinAt gid0 dir C loc0 mm0 g0 obs) 0 _ :=
        ⟨⟨_, upd_of hne upd_same⟩, upd_new ((upd_ne (Ne.symm hne)).trans ha) (upd_new hC' upd_same), f5 _ _ _ hp.n (Ne.symm a7) a10, hp.frame f5 (Ne.symm a7) a10⟩
      have hG6 := hG3.frame f5 (Ne.symm a6) a5 a9
      generalize upd (upd (upd (upd H3 dv (⟨sid, 7, []⟩, viewOf (loc0 (tN gid0)))) It (tgI sid, .itm (loc0 (tN gid0)) 0 (refs (fun n => loc0 (tNd gid0 n)) g0.keys).length (epOf (obs (loc0 (tN gid0)))))) C' (tgC sid, .loc (dot0 It))) a (tgG sid, .gen gi (GLife c 1 a (tgG sid) gi sid (NInv sid C' It (loc0 (tN gid0)) (refs (fun n => loc0 (tNd gid0 n)) (g0.nodes.map (·.1))) (obs (loc0 (tN gid0))) (tN gid0) (PinAt gid0 dir C loc0 mm0 g0 obs)) (nOut g0.nodes sid) g0.nodes.length 0)) = H6 at f5 ha6 hn6 hG6 ⊢
      refine al_nil ⟨[], kw_nil, rfl, ?_⟩
      refine CallOk.mono (hNc nf _ H6 gid 1 sid loc mm _ [] (g0.nodes.map fun p => (p.1, some p.2)) (.ref a) (rm'.less (by omega)) hG6 (.inl rfl) ?_ a6 a5 a11 a9 ?_) ?_ fun _ _ z => z.elim
      · intro e he
        obtain ⟨⟨n, more⟩, hm, rfl⟩ := List.mem_map.mp he
        have hr := hg.wf.rng n (List.mem_map_of_mem (f := (·.1)) hm)
        exact ⟨hr.1, hr.2, hg.wf.smN _ _ (look_of_mem hg.wf.nod hm)⟩
      · intro A' H7 rA f7
        have ha7 := f7 _ _ _ ha6 a6 a8
        have hn7 := hn6.frame f7 a6 a8 (Ne.symm a1) a10 (fun h => h.frame f7 (Ne.symm a1) a10)
        refine (iter_gen ha7).mono ?_
        rintro it H8 ⟨rfl, rfl⟩
        exact ⟨_, src_nodes a6 a8 a12 (Ne.symm a7) (Ne.symm a1) a10 (fun H H' h f => h.frame f (Ne.symm a7) a10) (fun H H' h f => h.frame f (Ne.symm a1) a10),
          fun i H1 H2 ⟨z1, z2⟩ kk => ⟨kk _ _ _ z1 a8, z2.keeps kk a8 a10 fun h t o hw => kk _ _ _ (h t o hw) (by rw [wantG_own (by rw [hw]; exact fun z => nomatch z)]; exact a10)⟩, ⟨ha7, hn7⟩, Frame.refl _ _⟩
      · rintro v H7 ⟨rfl, loc7, hG7, s7, f7⟩
        refine ⟨rfl, ?_⟩
        have hp7 : PinAt gid0 dir C loc0 mm0 g0 obs H7 := fun t o hw => by
          have h2 : t.own = gid0 := wantG_own (by rw [hw]; exact fun z => nomatch z)
          exact f7 _ _ _ (f5 _ _ _ (hp t o hw) (by rw [h2]; exact Ne.symm a7) (by rw [h2]; exact a10)) (by rw [h2]; exact Ne.symm a1) (by rw [h2]; exact Ne.symm a7) (by rw [h2]; exact a10)
        have f07 : ∀ b t o, H' b = some (t, o) → t.own ≠ gid → t.own ≠ sid → t.own ≠ xo → t.own ≠ gid0 → H7 b = some (t, o) := fun b t o hb n1 n2 n3 n4 => f7 _ _ _ (f5 _ _ _ (f03 b t o hb n1 n2 n3 n4) n2 n3) n1 n2 n3
        have hnv7 : look mm0 "nodes" = none ∨ ∃ a d, look mm0 "nodes" = some (.ref a) ∧ H7 a = some (tV gid0, .slot1 CN d (.ref (loc0 (tN gid0)))) ∧ H7 d = some (tW gid0, .nS []) := hnv3.imp id fun ⟨a, d, h1, h2, h3⟩ => ⟨a, d, h1, f7 _ _ _ (f5 _ _ _ h2 a4 (by simp [vid])) a3 a4 (by simp [vid]), f7 _ _ _ (f5 _ _ _ h3 a4 (by simp [vid])) a3 a4 (by simp [vid])⟩
        have hs7 : loc7 (tX gid) = loc (tX gid) := s7 (tX gid) rfl (by simp)
        refine AS.mono (copy_tail hf hq k hAE ⟨a1, a2, a3, a4, a5, a6, a7, a8, a9, a10, a11, a12, a13, a14⟩ rm' hg hs7 ⟨rfl, rfl⟩ hm1 hG7 hp7 f07 hnv7) (fun _ _ _ z => z) fun _ _ _ z => z.elim
    · intro It C' a gi code
      refine' nodes_life ?he ?hE ?hn ?hd (Ne.symm a7) a8 a10 (fun H H' h f => h.frame f (Ne.symm a7) a10) hFd ?hc _ _ _ ?hi (.inl ?hst)
      case hst => exact rfl
      case he => exact rfl
      case hE => exact ⟨rfl, rfl, rfl, rfl⟩
      case hn => rfl
      case hd => rfl
      case hc => exact ⟨_, rfl⟩
      case hi => rfl
end
end Nx
end
section
set_option autoImplicit false
namespace Nx
section
variable {prog : Program} {w : World} {A : Around} {E : Value → Shared → Prop} {s : Shared} {K : Frag} {x C f : Addr} {ox : Obj} {od : Option Obj}
/-- iter(x), x of a class of the text that says how -/
theorem iter_own {Q : Value → Shared → Prop} (X : K.In s.heap) (I : PySem.W.InstAt s.heap x ox C od) (hs : findIn K (.ref C) "__iter__" = some (some (.ref f))) (hf : typeIn K (.ref f) = some (.type "function"))
    (h : wpAny (model prog w) A (call (.ref f) [.ref x]) (fun it s' => ∃ T r, s'.TypeIs it T ∧ typeLookup (.type T) "__next__" = pure (some r) ∧ Q it s') E s) : wpAny (model prog w) A (pyIter (.ref x)) Q E s := by
  have bound : ∀ (refuse : Sem Value) (R : Option Value → Shared → Prop), wpAny (model prog w) A (call (.ref f) [.ref x]) (fun v s' => R (some v) s') E s → wpAny (model prog w) A (callSpecialIfBoundUnlessNone? (.ref x) "__iter__" refuse) R E s := by
    intro refuse R hc
    unfold callSpecialIfBoundUnlessNone? bindSpecialIfBound?
    refine wpAny_holding (wpAny_bind ?_)
    refine wpAny_bind (wpAny_bind (I.type.here ((looks_findIn X hs).here ?_)))
    refine wpAny_bind (wpAny_askSetting (wpAny_ite ?_))
    have go : wpAny (model prog w) A (if ((Value.ref f) == Value.none) = true then (do return some (← refuse)) else (do return some (← call (.ref f) [.ref x])) : Sem (Option Value)) R E s := by
      rw [if_neg (show ¬ ((Value.ref f == Value.none) = true) from Bool.false_ne_true)]
      exact wpAny_bind (wpAny_mono hc (fun v s' z => wpAny_pure z) fun _ _ z => z)
    split
    · exact wpAny_bind ((bind_fn X _ hf).here (wpAny_pure (by exact go)))
    · exact wpAny_tryCatch (wpAny_bind ((bind_fn X _ hf).here (wpAny_pure (by exact go))))
  unfold pyIter
  refine wpAny_bind (wpAny_bind (I.type.here ((looks_findIn X hs).here ?_)))
  show wpAny _ A (callSpecialIfBoundUnlessNone? (.ref x) "__iter__" _ >>= _) _ _ _
  refine wpAny_bind (bound _ _ (wpAny_mono h (fun it s' ⟨T, r, hT, hr, hq⟩ => ?_) fun _ _ z => z))
  exact wpAny_bind (wpAny_specialOf hT hr (wpAny_pure hq))
/-- len(x), likewise -/
theorem len_own {Q : Value → Shared → Prop} (X : K.In s.heap) (I : PySem.W.InstAt s.heap x ox C od) (hs : findIn K (.ref C) "__len__" = some (some (.ref f))) (hf : typeIn K (.ref f) = some (.type "function"))
    (h : wpAny (model prog w) A.in1 (call (.ref f) [.ref x]) (fun r s' => ∃ (n : Int) (t : Tok), r = .int n t ∧ 0 ≤ n ∧ n < 2 ^ 63 ∧ Q (.int n s'.toks) { s' with toks := s'.toks + 1 }) E s) : wpAny (model prog w) A (call (.builtin "len") [.ref x]) Q E s := by
  refine Calls.call_function_entry kind_len plain_len entry_len (args_len1 _) ?_
  unfold Builtin.«len»
  refine wpAny_bind (m := oneArg "len" _) (wpAny_pure ?_)
  refine wpAny_bind (m := callSpecial? (.ref x) (Str.ofString "__len__")) (special_fn X I hs hf (wpAny_mono h (fun r s' hr => ?_) fun _ _ y => y))
  obtain ⟨n, t, rfl, h0, h1, hq⟩ := hr
  refine wpAny_bind (wpAny_holding (wpAny_pure ?_))
  refine wpAny_bind (wpAny_letGo ?_)
  show wpAny _ _ (if n < 0 then _ else _) _ _ _
  rw [if_neg (by omega)]
  show wpAny _ _ (if n ≥ 2 ^ 63 then _ else _) _ _ _
  rw [if_neg (by omega)]
  exact wpAny_bind (wpAny_mkInt (wpAny_pure ⟨_, rfl, hq⟩))
/-- what list.extend asks of such an x -/
theorem hint_own {Q : Bool → Shared → Prop} (X : K.In s.heap) (I : PySem.W.InstAt s.heap x ox C od) (hs : findIn K (.ref C) "__len__" = some (some (.ref f))) (hf : typeIn K (.ref f) = some (.type "function"))
    (h : wpAny (model prog w) A.in1 (call (.ref f) [.ref x]) (fun r s' => ∃ (n : Int) (t : Tok), r = .int n t ∧ 0 ≤ n ∧ n < 1000 ∧ Q (n != 0) { s' with toks := s'.toks + 1 }) (fun _ _ => False) s) : wpAny (model prog w) A (Builtin.List.listLengthHint (.ref x)) Q E s := by
  unfold Builtin.List.listLengthHint
  refine wpAny_bind (wpAny_bind (I.type.here ((looks_findIn X hs).here ?_)))
  show wpAny _ A (rule "list.length-hint.len" >>= _) _ _ _
  refine wpAny_bind (wpAny_rule ?_)
  refine wpAny_bind (wpAny_attempt (len_own X I hs hf (wpAny_mono h (fun r s' ⟨n, t, e, h0, h1, hq⟩ => ⟨n, t, e, h0, by omega, ?_⟩) fun _ _ z => z.elim)))
  show wpAny _ A (asInt? (.int n s'.toks) >>= _) _ _ _
  refine wpAny_bind (wpAny_pure ?_)
  show wpAny _ A (if Builtin.List.listTooLong n.toNat = true then _ else _) _ _ _
  rw [if_neg (by unfold Builtin.List.listTooLong; rw [sizeLine_eq]; simp; omega)]
  exact wpAny_pure hq
end
section
variable {nf : Bool} {c : Cx} {A : Around} {H : AHeap} {W W' : WM} {s s' : Shared}
theorem CallOk.any {f : Value} {args : List AV} {Q E : AV → AHeap → Prop} (h : CallOk false c A H f args [] Q E) {vs : List Value} {outer : List Env} (ok : Ok c W s H) (hA : A.frames = some outer) (hff : FF c W s.heap H outer) (hv : All2 (VR W) vs args) :
    wpAny c.M A (call f vs) (fun v s' => ∃ W' H' a, Post c W s H W' s' H' ∧ VR W' v a ∧ Q a H') (fun e s' => ∃ W' H' a, Post c W s H W' s' H' ∧ VR W' e a ∧ E a H') s :=
  wpN_any (wpN_call (codeN_mono (h W s vs [] outer ok hA hff hv .nil) fun r s' z => by
    rcases r with e | (_ | _ | _ | v)
    · exact z
    · exact z
    · exact z
    · exact z
    · exact z))
/-- two owned objects are let go, and may have turned -/
theorem Ok.lose2 (ok : Ok c W s H) {a b : Addr} {x y : Tag × AObj} {h' : Heap} (n : Nat) (ha : H a = some x) (hb : H b = some y) (hs : ∀ d o, d ≠ a → d ≠ b → s.heap.get? d = some o → h'.get? d = some o) (hz : c.base.objs.size ≤ h'.objs.size) : Ok c W { s with heap := h', toks := n } (Nx.drop (Nx.drop H a) b) := by
  obtain ⟨ta, oa⟩ := x
  obtain ⟨tb, ob⟩ := y
  have hba := (ok.own a ta oa ha).1
  have hbb := (ok.own b tb ob hb).1
  have low : ∀ d o, d < c.base.objs.size → s.heap.get? d = some o → h'.get? d = some o := fun d o hd e => hs d o (Nat.ne_of_lt (Nat.lt_of_lt_of_le hd hba)) (Nat.ne_of_lt (Nat.lt_of_lt_of_le hd hbb)) e
  have two : ∀ d z, Nx.drop (Nx.drop H a) b d = some z → d ≠ a ∧ d ≠ b ∧ H d = some z := fun d z hd => by
    have n2 : d ≠ b := fun e => by subst e; simp [Nx.drop] at hd
    rw [drop_ne n2] at hd
    have n1 : d ≠ a := fun e => by subst e; simp [Nx.drop] at hd
    rw [drop_ne n1] at hd
    exact ⟨n1, n2, hd⟩
  refine ⟨oldK_low ok.old low, ?_, ok.os, ok.bare, hz, fun d u y hy => ?_, ok.gen.sub fun d u gi P hy => (two d _ hy).2.2, fun d v hv => ?_⟩
  · obtain ⟨o, e⟩ := c.stat
    rw [e]; exact low _ _ (Heap.lt_size e) (ok.stat.trans e)
  · obtain ⟨n1, n2, hd⟩ := two d _ hy
    obtain ⟨h1, o, h2, h3⟩ := ok.own d u y hd
    exact ⟨h1, o, hs _ _ n1 n2 h2, h3⟩
  · obtain ⟨h1, h2, o, h3, h4⟩ := ok.frz d v hv
    have n1 : d ≠ a := fun e => by rw [e, ha] at h2; cases h2
    have n2 : d ≠ b := fun e => by rw [e, hb] at h2; cases h2
    exact ⟨h1, drop_none (drop_none h2), o, hs _ _ n1 n2 h3, h4⟩
/-- a view's class: how it is iterated and measured -/
structure ViewOps (c : Cx) (CN fI fL : Addr) : Prop where
  it : findIn c.K (.ref CN) "__iter__" = some (some (.ref fI))
  itf : typeIn c.K (.ref fI) = some (.type "function")
  ln : findIn c.K (.ref CN) "__len__" = some (some (.ref fL))
  lnf : typeIn c.K (.ref fL) = some (.type "function")
theorem cw_sorted_view (t0 tI : Tag) (hh : A.handled = none) {CN fI fL a dv dN : Addr} {tv td tN : Tag} {l : List (Int × AV)} {E' : AV → AHeap → Prop} (hV : ViewOps c CN fI fL) (ha : H a = some (tv, .slot1 CN dv (.ref dN))) (hd : H dv = some (td, .nS [])) (hN : H dN = some (tN, .dI l)) (hz : l.length < 64)
    (cI : ∀ H', Grows H H' → CallOk false c A.in1.in1 H' (.ref fI) [.ref a] [] (fun r H'' => ∃ it, r = .ref it ∧ H' it = none ∧ ∃ ob, H'' = upd (upd H' dN (tN, .pin ob (.dI l))) it (tI, keyIt dN 0 l.length (epOf ob))) (fun _ _ => False))
    (cL : ∀ H' ob, H' a = some (tv, .slot1 CN dv (.ref dN)) → H' dv = some (td, .nS []) → H' dN = some (tN, .pin ob (.dI l)) → CallOk false c A.in1.in1.in1 H' (.ref fL) [.ref a] [] (fun r H'' => r = .int l.length ∧ H'' = H') (fun _ _ => False)) :
    CallW nf c A H (.builtin "sorted") [.ref a] (fun r H' => ∃ (b : Addr) (ns : List Int), H b = none ∧ r = .ref b ∧ ns.Perm (l.map (·.1)) ∧ ns.Pairwise (· ≤ ·) ∧ H' = upd H b (t0, .list (ns.map AV.int))) E' := fun W s vs outer ok hA hff hv => by
  cases hv with | cons r1 hv => cases hv with | nil =>
  obtain rfl : _ = Value.ref a := r1
  refine wpN_of (sorted_of (wpAny_ge ?_))
  unfold collect
  refine wpAny_bind (wpAny_runValue (codeAny_builtin F.entry_proto_collect ?_))
  rw [Around.under_plainId F.plain_proto_collect _]
  show wpAny _ A.in1.in1 (newList [] >>= fun l => again (.builtin "list.__iadd__" ⟨[l, .ref a], []⟩)) _ _ s
  refine wpAny_bind (wpAny_newObj_type ?_)
  refine wpAny_pure ⟨plainId_quiet F.plain_list_iadd _, codeAny_builtin F.entry_list_iadd ?_⟩
  rw [Around.under_plainId F.plain_list_iadd _]
  have p1 := ok.alloc (t := default) (o := .raw { cls := .type "list", data := .seq ([] : List Value).toArray }) (ob := { cls := .type "list", data := .seq ([] : List Value).toArray }) s.toks rfl rfl rfl
  generalize hl0 : s.heap.objs.size = l0 at p1 ⊢
  have hl0N : H l0 = none := hl0 ▸ ok.fresh
  have g1 : Grows H (upd H l0 (default, .raw { cls := .type "list", data := .seq ([] : List Value).toArray })) := Grows.new hl0N
  have nal : a ≠ l0 := ne_new hl0N ha
  show wpAny _ A.in1.in1 (Builtin.List.listExtendWith (.ref l0) (.ref a) (.ref l0)) _ _ _
  unfold Builtin.List.listExtendWith
  obtain ⟨v', od, I1, _⟩ := p1.ok.slotI (g1 _ _ ha) (g1 _ _ hd)
  refine wpAny_bind (I1.type.here ?_)
  have h1 : Builtin.List.listSameRef (.ref l0) (.ref a) = false := by simp [Builtin.List.listSameRef, Ne.symm nal]
  rw [if_neg (by rw [h1]; exact Bool.false_ne_true)]
  refine wpAny_bind (iter_own p1.ok.kin I1 hV.it hV.itf (wpAny_mono ((cI _ g1).any p1.ok hA (hff.keep p1) (.cons VR.ref' .nil)) ?_ fun _ _ ⟨_, _, _, _, _, z⟩ => z.elim))
  rintro r s2 ⟨W2, H2, y, p2, r2, it, rfl, hit, ob, rfl⟩
  obtain rfl : r = .ref it := r2
  have hitl : it ≠ l0 := fun e => by rw [e, upd_same] at hit; cases hit
  have hitN : H it = none := by rw [upd_ne hitl] at hit; exact hit
  have nNl : dN ≠ l0 := ne_new hl0N hN
  have nNi : dN ≠ it := ne_new hitN hN
  have nai : a ≠ it := ne_new hitN ha
  have ndi : dv ≠ it := ne_new hitN hd
  have ndl : dv ≠ l0 := ne_new hl0N hd
  have naN : a ≠ dN := fun e => by rw [e, hN] at ha; cases ha
  have ndN : dv ≠ dN := fun e => by rw [e, hN] at hd; cases hd
  have ha2 : upd (upd (upd H l0 (default, .raw { cls := .type "list", data := .seq ([] : List Value).toArray })) dN (tN, .pin ob (.dI l))) it (tI, keyIt dN 0 l.length (epOf ob)) a = some (tv, .slot1 CN dv (.ref dN)) := upd_of nai (upd_of naN (upd_of nal ha))
  have hd2 : upd (upd (upd H l0 (default, .raw { cls := .type "list", data := .seq ([] : List Value).toArray })) dN (tN, .pin ob (.dI l))) it (tI, keyIt dN 0 l.length (epOf ob)) dv = some (td, .nS []) := upd_of ndi (upd_of ndN (upd_of ndl hd))
  have hN2 : upd (upd (upd H l0 (default, .raw { cls := .type "list", data := .seq ([] : List Value).toArray })) dN (tN, .pin ob (.dI l))) it (tI, keyIt dN 0 l.length (epOf ob)) dN = some (tN, .pin ob (.dI l)) := upd_of nNi upd_same
  have hT2 : s2.TypeIs (.ref it) "dict_keyiterator" := (p2.ok.keyIt upd_same).typeIs
  refine ⟨"dict_keyiterator", _, hT2, F.slot_dict_keyiterator_next.lookup, wpAny_bind (wpAny_holding ?_)⟩
  obtain ⟨v2, od2, I2, _⟩ := p2.ok.slotI ha2 hd2
  refine (hint_own p2.ok.kin I2 hV.ln hV.lnf (wpAny_mono ((cL _ ob ha2 hd2 hN2).any p2.ok hA ((hff.keep p1).keep p2) (.cons VR.ref' .nil)) ?_ fun _ _ ⟨_, _, _, _, _, z⟩ => z.elim))
  rintro r s3 ⟨W3, H3, y, p3, r3, rfl, rfl⟩
  obtain ⟨tk, rfl⟩ := r3
  refine ⟨l.length, tk, rfl, by omega, by omega, ?_⟩
  have p123 := (p1.trans p2).trans p3
  have nli : l0 ≠ it := Ne.symm hitl
  have nlN : l0 ≠ dN := Ne.symm nNl
  refine' (fun (loop : ∀ (s4 : Shared) (n : Nat), Post c W s H W3 s4 (upd (upd (upd H l0 (default, .raw (seqObj "list" #[] n))) dN (tN, .pin ob (.dI l))) it (tI, keyIt dN 0 l.length (epOf ob))) →
      wpAny (model c.prog c.w) A.in1.in1 (again (.builtin "list.extend.loop" ⟨[.ref l0, .ref it, .ref l0], []⟩)) ?QQ ?EE s4) => ?g1) ?g2
  case g1 =>
    have p5 := p123.trans (Post.toks p3.ok (s3.toks + 1))
    by_cases hz0 : l.length = 0
    · rw [if_neg (by rw [hz0]; exact Bool.false_ne_true)]
      exact loop { s3 with toks := s3.toks + 1 } 0 p5
    · rw [if_pos (by rw [Bool.or_eq_true]; left; simpa [List.length_eq_zero_iff] using hz0)]
      refine wpAny_bind (wpAny_rule (wpAny_bind ?_))
      obtain ⟨o0, g0, e0⟩ := p5.ok.get (a := l0) (t := default) (o := .raw { cls := .type "list", data := .seq ([] : List Value).toArray }) (upd_of nli (upd_of nlN upd_same))
      obtain rfl : o0 = _ := e0
      refine touch_at (n := 0) g0 fun h' n' hs' ho' => ?_
      have p6 := p5.trans (p5.ok.upd (o' := .raw (seqObj "list" #[] n')) (t' := default) (s3.toks + 1) (upd_of nli (upd_of nlN upd_same)) hs' ho' rfl rfl)
      rw [upd_swap hitl, upd_swap (a := dN) (b := l0) nNl, upd_upd] at p6
      exact loop _ n' p6
  case g2 =>
    intro s4 n p4
    obtain ⟨o0, g0, e0⟩ := p4.ok.get (a := l0) (t := default) (o := .raw (seqObj "list" #[] n)) (upd_of nli (upd_of nlN upd_same))
    obtain rfl : o0 = _ := e0
    obtain ⟨kvs, D, kv⟩ := p4.ok.pinned (d := dN) (upd_of nNi upd_same)
    have hl := kv.length
    have hk := kv.keys
    have hki := p4.ok.keyIt (it := it) upd_same
    have gl := Heap.lt_size g0
    have gi := p4.ok.lt (a := it) upd_same
    have gN := p4.ok.lt (a := dN) (upd_of nNi upd_same)
    refine wpAny_pure ⟨plainId_quiet F.plain_extend_loop _, codeAny_extend_loopS (Walks.dictKeys (A := A.in1.in1) (knd := intKind c.prog c.w) hh it dN nNi kvs (epOf ob)).toS (by rw [sizeLine_eq]; omega) l0 (by simp [nli, nlN]) _ kvs.length 0 _ _ _ rfl (Nat.zero_le _) ⟨hl ▸ hki, D⟩ g0 (ItemsOf.nil _) fun s' acc' c' hm hS' hacc => ?_⟩
    show wpAny _ A.in1 (load l0 >>= _) _ _ s'
    refine wpAny_bind (wpAny_load hS' (wpAny_pure fun ge => ?_))
    have hints : IntsAre acc'.toList (l.map (·.1)) := by
      refine ints_of (by rw [Array.length_toList, hacc.1]; simp [hl]) fun j v hj => ?_
      obtain ⟨k, x, e1, e2⟩ := hacc.2 j v (by simpa using hj)
      obtain ⟨tk, rfl⟩ := Value.isInt_shape e2
      refine ⟨k, tk, ?_, rfl⟩
      rw [← hk, List.getElem?_map, e1]; rfl
    refine ⟨_, hints, by rw [Array.length_toList, hacc.1]; omega, fun h' b out ns' e k hsz hb hob hint hperm hsort => ?_⟩
    obtain ⟨hp1, gg1, dr1, tk1, os1⟩ := s'
    obtain rfl : gg1 = s4.gens := hm.gens
    obtain rfl : dr1 = s4.drawn := hm.drawn
    obtain rfl : os1 = s4.os := hm.os
    have kk : ∀ d o, d ≠ l0 → d ≠ it → s4.heap.get? d = some o → h'.get? d = some o := fun d o n1 n2 e => k _ _ (hm.heap d o (by simp [n1, n2]) e)
    have hsz1 : s.heap.objs.size ≤ hp1.objs.size := ge.1
    have hb' : hp1.objs.size = b := hb
    have hsb : s.heap.objs.size ≤ b := by omega
    have hHb : H b = none := by
      cases q : H b with
      | none => rfl
      | some y => exact absurd (ok.lt q) (Nat.not_lt.mpr hsb)
    have hbN : b ≠ dN := ne_new (H := H) hHb hN |>.symm
    have hlow : c.base.objs.size ≤ h'.objs.size := Nat.le_trans ok.low (Nat.le_trans hsz1 hsz)
    have ok5 := p4.ok.lose2 (a := l0) (b := it) (h' := h') tk1 (upd_of nli (upd_of nlN upd_same)) upd_same kk hlow
    rw [drop_upd_ne nli, drop_upd_ne nlN, drop_upd hl0N, drop_upd ((upd_ne (Ne.symm nNi)).trans hitN)] at ok5
    have p6 := ok5.unpin (d := dN) upd_same rfl
    rw [upd_upd, upd_eq hN] at p6
    have ok6 := p6.ok
    have hWb : W3 b = none := by
      cases q : W3 b with
      | none => rfl
      | some y =>
        rcases p4.wdom b (by rw [q]; exact fun z => nomatch z) with z | z | z
        · cases q' : W b with
          | none => exact absurd q' z
          | some y' => obtain ⟨_, _, o, g, _⟩ := ok.frz _ _ q'; exact absurd (Heap.lt_size g) (Nat.not_lt.mpr hsb)
        · exact absurd hHb z
        · obtain ⟨_, _, o, g, _⟩ := p4.ok.frz _ _ q
          have hw2 : b ≠ l0 ∧ b ≠ it := by
            constructor
            · rintro rfl; have := (p4.ok.frz _ _ q).2.1; rw [upd_of nli (upd_of nlN upd_same)] at this; cases this
            · rintro rfl; have := (p4.ok.frz _ _ q).2.1; rw [upd_same] at this; cases this
          have := hm.heap b o (by simp [hw2.1, hw2.2]) g
          exact absurd (Heap.lt_size this) (by rw [← hb']; exact Nat.lt_irrefl _)
    have hlen := ints_len hint
    have hpl := hperm.length_eq
    rw [List.length_map] at hpl
    refine ⟨W3, upd H b (t0, .list (ns'.map AV.int)), .ref b, ⟨ok6.take hHb hWb (Nat.le_trans ok.low hsb) hob (OR.list' (vs := out.toList) rfl rfl (ints_vr hint) (by rw [List.length_map]; omega)) rfl, p4.ext, fun d o hd' hH hB hf => ?_, Nat.le_trans hsz1 hsz, fun d hd' => ?_, p4.wdom⟩, VR.ref', b, ns', hHb, rfl, hperm, hsort, rfl⟩
    · obtain ⟨sl, e4⟩ := p4.keep d o hd' hH hB hf
      have hdl : d < s.heap.objs.size := Heap.lt_size hd'
      have n1 : d ≠ l0 := by rw [← hl0]; exact Nat.ne_of_lt hdl
      have n2 : d ≠ it := fun q => by
        subst q
        rcases p2.dom d (by rw [upd_same]; exact fun z => nomatch z) with z | z
        · exact z (by rw [upd_ne n1]; exact hH)
        · exact absurd hdl (Nat.not_lt.mpr (Nat.le_trans p1.size z))
      exact ⟨sl, kk d _ n1 n2 e4⟩
    · by_cases e : d = b
      · exact .inr (e ▸ hsb)
      · rw [upd_ne e] at hd'; exact .inl hd'
end
end Nx
end
section
set_option autoImplicit false
namespace Nx
section
variable {nf : Bool} {c : Cx} {A : Around} {env : Env} {m : LM} {H : AHeap} {E : AV → LM → AHeap → Prop} {W : WM} {s : Shared}
/-- a in x, x of a class of the text that says so -/
theorem cmp_in_own {x C d f : Addr} {t t' : Tag} {mm : List (Str × AV)} {a : AV} {b : Bool} (h1 : H x = some (t, .inst C d)) (h2 : H d = some (t', .nS mm)) (hs : findIn c.K (.ref C) "__contains__" = some (some (.ref f))) (hf : isFn c.K (.ref f) = true)
    (hc : CallOk false c A H (.ref f) [.ref x, a] [] (fun r H' => r = .bool b ∧ H' = H) (fun _ _ => False)) : CmpF c A env m H .In a (.ref x) b := fun W s u y ok fo r1 r2 => by
  obtain rfl : y = .ref x := r2
  obtain ⟨od, I, g, L⟩ := ok.inst h1 h2
  obtain ⟨outer, hA, hff⟩ := fo.ff
  unfold compareOp
  refine wpAny_bind ?_
  unfold contains
  refine wpAny_holding (wpAny_bind (wpAny_bind (I.type.here ((looks_findIn ok.kin hs).here ?_))))
  rw [if_neg (by simp)]
  refine wpAny_bind (unlessNone_K ok.kin I hs hf (wpAny_mono (hc.any ok hA hff (.cons VR.ref' (.cons r1 .nil))) ?_ fun _ _ ⟨_, _, _, _, _, z⟩ => z.elim))
  rintro v s' ⟨W', H', w, p, r, rfl, rfl⟩
  obtain rfl : v = .bool b := r
  exact wpAny_truthy_bool (wpAny_pure ⟨W', p, VR.bool'⟩)
theorem sorted_same {l : List Int} {ns ms : List Int} (h1 : ns.Perm l) (h2 : ms.Perm l) (s1 : ns.Pairwise (· ≤ ·)) (s2 : ms.Pairwise (· ≤ ·)) : ns = ms :=
  (h1.trans h2.symm).eq_of_pairwise (fun _ _ _ _ h h' => Int.le_antisymm h h') s1 s2
end
end Nx
end
section
set_option autoImplicit false
namespace Nx
section
variable {nf : Bool} {c : Cx} {A : Around} {env : Env} {m : LM} {H : AHeap} {E : AV → LM → AHeap → Prop} {W : WM} {s : Shared}
theorem AE.weak {e : Expr} {Q : AV → LM → AHeap → Prop} (h : AE nf c A env m H e Q (fun _ _ _ => False)) : AE nf c A env m H e Q E := h.mono (fun _ _ _ z => z) fun _ _ _ z => z.elim
/-- for x in range(e): .. -/
theorem a1_range (rid : Nat) {x : Str} {p1 p2 p3 p4 : Pos} {e : Expr} {n : Nat} {body : List Stmt} {Q : AFl → LM → AHeap → Prop} (gR : c.mg "range" = none) (bR : c.mb "range" = some (.type "range")) (hh : A.handled = none) (hz : n ≤ 1000) (Inv : Nat → LM → AHeap → Prop)
    (he : AE nf c A env m H e (fun v m0 H0 => v = .int n ∧ Inv 0 m0 H0) E)
    (hst : ∀ i m H H', Inv i m H → Frame rid H H' → Inv i m H')
    (turn : ∀ i m1 H1, i < n → Inv i m1 H1 → AS nf c A env (setm m1 x (.int i)) H1 body (fun fl m' H' => match fl with
      | .next => Inv (i + 1) m' H' ∧ ∀ b o, H1 b = some (⟨rid, 0, []⟩, o) → H' b = some (⟨rid, 0, []⟩, o)
      | .cont => Inv (i + 1) m' H' ∧ ∀ b o, H1 b = some (⟨rid, 0, []⟩, o) → H' b = some (⟨rid, 0, []⟩, o)
      | .brk => False
      | .ret a => Q (.ret a) m' H') (fun _ _ _ => False))
    (fin : ∀ m1 H1, Inv n m1 H1 → Q .next m1 H1)
    (hl : env.kindOf x = some .local := by rfl) (hk : env.scope.kind = .function := by rfl) (hl2 : env.kindOf "range" = some .globalImplicit := by rfl) (hg : env.globals = mainGlobals := by rfl) (hb : env.builtins = builtinsNs := by rfl)
    (hp : (backTo p3 (starEach [e] env)).any (·.1) = false := by rfl)
    (he' : eval (.Call (.Name "range" p2) [e] [] p3) env = (do let fv ← eval (.Name "range" p2) env; callWith p3 fv [] (backTo p3 (starEach [e] env)) (backToKw p3 (keywordEach [] env))) := by rfl)
    (hst1 : starEach (e :: []) env = (false, eval e env) :: starEach [] env := by rfl)
    (hs : ∀ x, foldedSetIterable (.Call (.Name "range" p2) [e] [] p3) env x = pure x := by intro _; rfl) :
    A1 nf c A env m H (.For (.Name x p1) (.Call (.Name "range" p2) [e] [] p3) body [] p4) Q E := by
  refine a1_forK (ae_callW (pe_blt gR bR hg hb hk hl2) con_is keep_type (al_cons (he.mono (fun v m0 H0 ⟨e1, hI0⟩ => ?_) fun _ _ _ z => z) hst1) hp he') hs
  subst e1
  refine al_nil ((cw_range (⟨rid, 1, []⟩) (n := (n : Int)) (E' := fun _ _ => False)).mono ?_ fun _ _ z => z.elim)
  rintro v H1 ⟨r, hr, rfl, rfl⟩
  intro W s u ok ru
  refine wpN_mono (iter_rng (⟨rid, 0, []⟩) upd_same (by omega) (by omega) W s u ok ru) ?_ fun _ _ z => z.elim
  rintro o s' ⟨W', H2, it, rfl, p, hit, rfl⟩
  have hitr : it ≠ r := fun q => by rw [q, upd_same] at hit; cases hit
  have hI1 : Inv 0 m0 (upd (upd H0 r (⟨rid, 1, []⟩, .rng n)) it (⟨rid, 0, []⟩, rngIt 0 n)) := hst _ _ _ _ hI0 ((Frame.new hr).trans (Frame.new hit))
  refine ⟨W', _, it, rfl, p, fun k m1 H3 => ∃ i : Nat, k + i = n ∧ Inv i m1 H3 ∧ H3 it = some (⟨rid, 0, []⟩, rngIt i ((n : Int) - i)), ⟨n, 0, rfl, hI1, by simpa using upd_same⟩, ?_⟩
  rintro k m1 H3 ⟨i, hk', hI, h3⟩
  rcases Nat.lt_or_ge i n with hi | hi
  · refine (next_rng_item h3 (by omega)).ok ?_
    have f3 : Frame rid H3 (upd H3 it (⟨rid, 0, []⟩, rngIt ((i : Int) + 1) ((n : Int) - i - 1))) := Frame.upd fun t o q => by rw [h3] at q; cases q; rfl
    refine asg_name ?_ hl hk
    refine (turn i m1 _ hi (hst _ _ _ _ hI f3)).mono (fun fl m' H' z => ?_) fun _ _ _ z => z
    have e1 : ((i : Int) + 1) = ((i + 1 : Nat) : Int) := by omega
    cases fl with
    | next => exact ⟨k - 1, by omega, i + 1, by omega, z.1, by rw [← e1, ← Int.sub_sub]; exact z.2 _ _ upd_same⟩
    | cont => exact ⟨k - 1, by omega, i + 1, by omega, z.1, by rw [← e1, ← Int.sub_sub]; exact z.2 _ _ upd_same⟩
    | brk => exact z.elim
    | ret a => exact z
  · obtain rfl : i = n := by omega
    refine (next_rng_end hh h3 (by omega)).ok ?_
    exact fin _ _ (hst _ _ _ _ hI (Frame.dropped fun t o q => by rw [h3] at q; cases q; rfl))
end
end Nx
end
section
set_option autoImplicit false
namespace Nx
section
variable {prog : Program} {w : World} {A : Around} {E : Value → Shared → Prop} {s : Shared}
/-- a new exception is put ahead of k -/
def Unch (prog : Program) (w : World) (k it : Addr) (h : Heap) : Prop := ∀ (A : Around) (s' : Shared) (e : Addr) (R : Result → Shared → Prop), (∀ b o, b ≠ it → h.get? b = some o → s'.heap.get? b = some o) → h.objs.size ≤ e → R (.ok (.ret .none)) s' → codeAny (model prog w) A (.builtin "proto.unchain" ⟨[.ref e, .ref k, .ref k, .bool false], []⟩) R s'
theorem unch2 {k k2 it : Addr} {h : Heap} {o o2 : Obj} {vs ws : Array Value} (hk : h.get? k = some o) (hd : o.data = .fields vs) (h2 : vs[2]? = some (.ref k2)) (hk2 : h.get? k2 = some o2) (hd2 : o2.data = .fields ws) (h3 : ws[2]? = some .none) (hne : k2 ≠ k) (n1 : k ≠ it) (n2 : k2 ≠ it) : Unch prog w k it h := by
  intro A s' e R keep he hR
  have g1 := keep k o n1 hk
  have g2 := keep k2 o2 n2 hk2
  have ne2 : k2 ≠ e := fun q => absurd (Heap.lt_size hk2) (by rw [q]; exact Nat.not_lt.mpr he)
  refine codeAny_builtin (b := Builtin.«proto.unchain») entry_unchain ?_
  show wpAny _ _ (field (.ref k) 2 >>= _) _ _ _
  refine wpAny_bind (wpAny_field g1 hd h2 ?_)
  rw [if_neg (by exact Bool.false_ne_true), if_neg (by simpa using ne2), if_neg (by simpa using hne)]
  show wpAny _ _ ((pure (Value.ref k) : Sem Value) >>= _) _ _ _
  refine wpAny_bind (wpAny_pure ?_)
  refine wpAny_pure ⟨plainId_quiet (by decide +kernel) _, codeAny_builtin (b := Builtin.«proto.unchain») entry_unchain ?_⟩
  show wpAny _ _ (field (.ref k2) 2 >>= _) _ _ _
  refine wpAny_bind (wpAny_field g2 hd2 h3 ?_)
  rw [if_pos (by rfl)]
  exact wpAny_pure hR
/-- a tuple's iterator at its end, in a clause that holds an exception with others behind it -/
theorem tuple_endU {it t k : Addr} {i : Nat} {items : Array Value} {ok : Obj} {Q : Option Value → Shared → Prop} (hh : A.handled = some (.ref k)) (hk : s.heap.get? k = some ok) (hki : k ≠ it) (hun : Unch prog w k it s.heap)
    (hit : IsTupIter s.heap it t i) (ht : IsTup s.heap t items) (hx : items[i]? = none)
    (hQ : ∀ h', Heap.ExtBut it s.heap h' → Q none { s with heap := h' }) : wpAny (model prog w) A (pyNext (.ref it)) Q E s := by
  obtain ⟨o, ho, hc, hd⟩ := id hit
  obtain ⟨ol, hol, _, nl, hdl⟩ := ht
  unfold pyNext
  refine wpAny_bind (wpAny_attempt (wpAny_callSpecial?_slot (name := Str.ofString "__next__") hit.typeIs slot_tupleiter_next (wpAny_call_entry slot_tupleiter_next hit.typeIs entry_tupleiter_next ?_ (args_tupleiter_next _))))
  show wpAny _ _ (field (.ref it) 0 >>= _) _ _ s
  refine wpAny_bind (wpAny_field ho hd (x := .ref t) rfl ?_)
  show wpAny _ _ (if (Value.ref t == Value.none) = true then _ else _) _ _ s
  rw [if_neg (show ¬ ((Value.ref t == Value.none) = true) from Bool.false_ne_true)]
  show wpAny _ _ (field (.ref it) 1 >>= _) _ _ s
  refine wpAny_bind (wpAny_field ho hd (x := .int i 0) rfl ?_)
  show wpAny _ _ (seqItems? (.ref t) >>= _) _ _ s
  refine wpAny_bind (wpAny_seqItems hol hdl ?_)
  simp only [Int.toNat_natCast, hx]
  refine wpAny_bind (wpAny_rule (wpAny_bind (wpAny_setField ho hd (by simp) ?_)))
  show wpAny _ _ (newExc (.type "StopIteration") [] >>= _) _ _ _
  refine wpAny_bind ?_
  simp only [newExc, newTuple]
  refine wpAny_bind (wpAny_newObj_type ?_ (by size_fits))
  refine wpAny_bind (m := firstArgMember _ _) (wpAny_of_eq (a := Value.none) (by first | rfl | (simp only [firstArgMember]; rfl)) ?_)
  refine wpAny_newObj_type ?_ (by size_fits)
  simp only [raiseNew]
  refine wpAny_bind (wpAny_handled ?_)
  rw [show A.in1.handled = some (.ref k) from hh]
  dsimp only
  generalize hg : (Heap.push (Heap.update s.heap it (Obj.mapFields fun x => x.setIfInBounds 0 Value.none)) { cls := Value.type "tuple", data := Data.seq [].toArray }) = h1
  have x1 : Heap.ExtBut it s.heap h1 := by rw [← hg]; exact (Heap.SameBut.update ..).extBut.push _
  have hk1 : h1.get? k = some ok := x1 k ok hki hk
  have hke : k ≠ h1.objs.size := Nat.ne_of_lt (Heap.lt_size hk1)
  rw [if_pos (by simpa using hke)]
  have hkk := Heap.get?_push_of_some { cls := Value.type "StopIteration", data := Data.fields (#[Value.ref (Heap.update s.heap it (Obj.mapFields fun x => x.setIfInBounds 0 Value.none)).objs.size, Value.none, Value.none, Value.none, Value.bool false, Value.none] ++ ownMembersOf (Value.type "StopIteration") []) } hk1
  refine wpAny_bind (wpAny_holding (wpAny_runValue (hun _ _ h1.objs.size _ (fun b o hb e => Heap.get?_push_of_some _ (x1 b o hb e)) ?_ ?_)))
  · have : h1.objs.size = s.heap.objs.size + 1 := by rw [← hg, Heap.size_push, Heap.size_update]
    omega
  have hget := Heap.get?_push_size h1 (o := { cls := Value.type "StopIteration", data := Data.fields (#[Value.ref (Heap.update s.heap it (Obj.mapFields fun x => x.setIfInBounds 0 Value.none)).objs.size, Value.none, Value.none, Value.none, Value.bool false, Value.none] ++ ownMembersOf (Value.type "StopIteration") []) }) rfl
  refine wpAny_bind (m := setField (.ref h1.objs.size) 2 (.ref k)) (wpAny_setField hget rfl (by rw [Array.size_append]; exact Nat.lt_of_lt_of_le (by decide : 2 < 6) (Nat.le_add_right _ _)) ?_)
  refine wpAny_throw ?_
  refine wpAny_bind (wpAny_isInstance (T := "StopIteration") (b := true) ⟨_, Heap.get?_update_self _ hget (Obj.isFreed_of_fields (Obj.data_mapFields rfl _)), Obj.cls_mapFields _ _⟩ isSubtype_stop ?_)
  refine wpAny_pure (hQ _ fun b o hb e => ?_)
  have hb1 := x1 b o hb e
  rw [Heap.get?_update_other _ _ (Nat.ne_of_gt (Heap.lt_size hb1))]
  exact Heap.get?_push_of_some _ hb1

/-- a tuple taken apart in such a clause -/
theorem unpackItemsU {t k : Addr} {items : Array Value} {ok : Obj} {Q : List Value → Shared → Prop} (hh : A.handled = some (.ref k)) (hk : s.heap.get? k = some ok) (hun : ∀ it h', s.heap.objs.size ≤ it → (∀ b o, b ≠ it → s.heap.get? b = some o → h'.get? b = some o) → Unch prog w k it h') (ht : IsTup s.heap t items)
    (hQ : ∀ h', Heap.ExtBut s.heap.objs.size s.heap h' → Q items.toList { s with heap := h' }) : wpAny (model prog w) A (unpackItems (.ref t) items.size none) Q E s := by
  have hlt : t ≠ s.heap.objs.size := by obtain ⟨o, ho, _⟩ := ht; exact Nat.ne_of_lt (Heap.lt_size ho)
  have hkt : k ≠ s.heap.objs.size := Nat.ne_of_lt (Heap.lt_size hk)
  unfold unpackItems
  refine wpAny_bind ?_
  unfold notIterableAtAll
  refine wpAny_bind (wpAny_specialOf ht.typeIs slot_tuple_iter.lookup ?_)
  refine wpAny_pure ?_
  simp only [Bool.false_eq_true, if_false]
  refine wpAny_bind (wpAny_holding (iter_tuple ht ?_))
  refine wpAny_bind (wpAny_holding (draw_tuple hlt items.size 0 _ _ ⟨_, Heap.get?_push_size _ rfl, rfl, rfl⟩ (ht.push _) (by omega) fun h₁ hit₁ hs₁ => ?_))
  rw [show List.take items.size (List.drop 0 items.toList) = items.toList from by rw [List.drop_zero]; exact List.take_of_length_le (by simp), if_neg (by simp)]
  have hk1 : h₁.get? k = some ok := (hs₁.2 k hkt).trans (Heap.get?_push_of_some _ hk)
  refine wpAny_bind (wpAny_holding (tuple_endU hh hk1 hkt (hun _ _ (Nat.le_refl _) fun b o hb e => (hs₁.2 b hb).trans (Heap.get?_push_of_some _ e)) hit₁ ((ht.push _).extBut hs₁.extBut hlt) (by simp) fun h₂ he₂ => ?_))
  simp only [Option.isSome_none, Bool.false_eq_true, if_false]
  exact wpAny_pure (hQ h₂ fun b o hb e => he₂ b o hb (hs₁.extBut b o hb (Heap.get?_push_of_some _ e)))
end
section
variable {nf : Bool} {c : Cx} {A : Around} {env : Env} {m : LM} {H : AHeap} {E : AV → LM → AHeap → Prop} {W : WM} {s : Shared}
theorem unp_tup2 {vs : List AV} {k k2 : Addr} {t t2 : Tag} {cls cls2 : Value} {us ws : List Value} (hh : A.handled = some (.ref k)) (hk : H k = some (t, recC cls us)) (hu : us[2]? = some (.ref k2)) (hk2 : H k2 = some (t2, recC cls2 ws)) (hw : ws[2]? = some .none) (hne : k2 ≠ k) : UnpOk c A H (.tup vs) vs := fun W s u ok ⟨a, h1, h2⟩ => by
  subst h1
  obtain ⟨xs, D, r⟩ := ok.isTup h2
  have hl := r.length
  have e : vs.length = xs.toArray.size := by simp [hl]
  rw [e]
  obtain ⟨o1, g1, _, d1⟩ := ok.rcdC hk
  obtain ⟨o2, g2, _, d2⟩ := ok.rcdC hk2
  refine wpAny_ge (unpackItemsU hh g1 (fun it h' hit keep => ?_) D fun h' he hz => ⟨W, ok.ext s.toks he hz.1, by simpa using r⟩)
  have n1 : k ≠ it := fun q => absurd (Heap.lt_size g1) (by rw [q]; exact Nat.not_lt.mpr hit)
  have n2 : k2 ≠ it := fun q => absurd (Heap.lt_size g2) (by rw [q]; exact Nat.not_lt.mpr hit)
  exact unch2 (keep _ _ n1 g1) d1 (by simpa using hu) (keep _ _ n2 g2) d2 (by simpa using hw) hne n1 n2
/-- a tag is turned -/
theorem AS.retag {ss : List Stmt} {Q : AFl → LM → AHeap → Prop} {a : Addr} {t t' : Tag} {o : AObj} (ha : H a = some (t, o)) (hg : o.isGen = false) (h : AS nf c A env m (upd H a (t', o)) ss Q E) : AS nf c A env m H ss Q E := .mk <| AG.told fun W s ok => ⟨_, ok.retell ha hg fun _ _ r => r, h.ag⟩
/-- «raise X(..) from err» in the clause that holds err -/
theorem a1_raise_from2 {x cx : Expr} {pos : Pos} {C k : Addr} {kcls : Value} {Q : AFl → LM → AHeap → Prop} (hx : ExcC c C) (hh : A.handled = some (.ref k)) (hk : subIn c.K kcls (.type "BaseException") = some true)
    (hv : AE nf c A env m H x (fun v m' H' => ∃ e t0 tk vs, v = .ref e ∧ H' e = some (⟨xo, 0, []⟩, rec0 C t0) ∧ e ≠ k ∧ H' k = some (tk, recC kcls vs) ∧ vs[2]? = some .none ∧ PE c A env m' H' cx (.ref k) ∧
      ∀ H'', Keeps H' H'' → ExcNew H'' e (.ref C) (.ref k) → E (.ref e) m' H'') E) : A1 nf c A env m H (.Raise (some x) (some cx) pos) Q E := .mk fun W s ok fo => by
  show wpN _ _ _ (exec (.Raise (some x) (some cx) pos) env) _ _ _
  rw [arm_exec_Raise]
  refine wpN_bind (wpN_standAt ?_)
  simp only [evalOpt, Option.map]
  unfold raiseStmt
  refine wpN_bind (wpN_bind (AG.run hv.ag ok fo fun W1 s1 m1 H1 u v p1 f1 r1 q1 => ?_))
  obtain ⟨e, t0, tk, vs, rfl, he, hne, hk2, hk4, hc, hE⟩ := q1
  obtain rfl : u = .ref e := r1
  refine wpN_bind (wpN_standAt (wpN_pure ?_))
  refine G.from p1 (wpN_of ?_)
  refine wpAny_bind (wpAny_holding (wpAny_bind (hc.run p1.ok f1 fun W2 s2 u p2 f2 r2 => ?_)))
  obtain rfl : u = .ref k := r2
  refine wpAny_bind (wpAny_standAt (wpAny_pure (wpAny_bind (wpAny_pure ?_))))
  refine wpAny_bind (wpAny_holding (exc_from p2.ok he hx.exc ?_))
  dsimp only
  rw [if_neg (by simp)]
  refine wpAny_bind (wpAny_holding (exc_from p2.ok hk2 hk ?_))
  refine wpAny_bind (set_field p2.ok he (by simp) fun s3 p3 => ?_)
  refine wpAny_bind (set_field p3.ok upd_same (by simp) fun s4 p4 => ?_)
  have e4 := (upd_same : upd (upd H1 e (⟨xo, 0, []⟩, recC (.ref C) ([Value.ref t0, .none, .none, .none, .bool false, .none].set 3 (.ref k)))) e (⟨xo, 0, []⟩, recC (.ref C) (([Value.ref t0, .none, .none, .none, .bool false, .none].set 3 (.ref k)).set 4 (.bool true))) e = _)
  refine wpAny_bind ((is_type p4.ok e4).here ?_)
  rw [if_neg Bool.false_ne_true]
  refine wpAny_bind (raised_inst p4.ok e4 hx.type ?_)
  refine wpAny_bind ?_
  unfold setFlight
  refine wpAny_bind (get_field p4.ok e4 (i := 1) rfl ?_)
  rw [if_neg (by decide)]
  refine wpAny_pure ?_
  unfold raiseNew
  refine wpAny_bind (wpAny_handled ?_)
  rw [hh]
  dsimp only
  have hkk : upd (upd H1 e (⟨xo, 0, []⟩, recC (.ref C) ([Value.ref t0, .none, .none, .none, .bool false, .none].set 3 (.ref k)))) e (⟨xo, 0, []⟩, recC (.ref C) (([Value.ref t0, .none, .none, .none, .bool false, .none].set 3 (.ref k)).set 4 (.bool true))) k = some (tk, recC kcls vs) := (upd_ne hne.symm).trans ((upd_ne hne.symm).trans hk2)
  rw [if_pos (by simpa using hne.symm)]
  refine wpAny_bind (wpAny_holding (wpAny_runValue (codeAny_builtin (b := Builtin.«proto.unchain») entry_unchain ?_)))
  show wpAny _ _ (do
    let context ← field (.ref k) 2
    _) _ _ _
  refine wpAny_bind (get_field p4.ok hkk hk4 ?_)
  rw [if_pos (by rfl)]
  refine wpAny_pure ?_
  refine wpAny_bind (set_field p4.ok e4 (i := 2) (x := .ref k) (by simp) fun s5 p5 => ?_)
  refine wpAny_throw ?_
  have pp := ((p2.trans p3).trans p4).trans p5
  refine ⟨W2, _, m1, .ref e, pp.x _, f2.keep ((p3.trans p4).trans p5), rfl, hE _ ?_ ⟨_, _, upd_same, rfl, rfl, rfl, by simp⟩⟩
  refine ((Keeps.upd fun _ _ q => ?_).trans (Keeps.upd fun _ _ q => ?_)).trans (Keeps.upd fun _ _ q => ?_)
  · rw [he] at q; cases q; rfl
  · rw [upd_same] at q; cases q; rfl
  · rw [upd_same] at q; cases q; rfl
end
end Nx
end
section
set_option autoImplicit false
namespace Nx
section
variable {nf : Bool} {c : Cx} {A : Around} {H : AHeap} {gid : Nat} {dir : Bool} {C CN CE : Addr} {loc : Loc} {mm : List (Str × AV)} {g : GC}
theorem neighbors2 (t : Tag) {f : Addr} {cdv : Value} (hf : FnIs c f "Graph.neighbors" (fpars sNb) (fbody sNb) (fscope sNb) .none .none cdv) (gK : c.mg "KeyError" = none) (bK : c.mb "KeyError" = some (.type "KeyError")) (xK : exmOne c.K (.type "KeyError") (.type "KeyError") = some true)
    (gI : c.mg "iter" = none) (bI : c.mb "iter" = some (.builtin "iter")) (gE : c.mg "NetworkXError" = some (.ref CE)) (hE : ExcC c CE) (hKE : subIn c.K (.type "KeyError") (.type "BaseException") = some true)
    (k : Kls c dir C CN) (rm : Rm A 1) (hg : GAt gid dir C CN loc mm g H) (hg0 : gid ≠ xo) {n : Int} (h0 : 0 ≤ n) (h9 : n < 10) :
    CallOk nf c A H (.ref f) [.ref (loc (tX gid)), .int n] [] (fun r H' => n ∈ g.keys ∧ ∃ it, r = .ref it ∧ NbrIt H (loc (tAd gid n)) (tAd gid n) t (refs (fun v => loc (tEd gid (ek dir n v))) (g.adj n)) it H')
      (fun e H' => n ∉ g.keys ∧ Keeps H H' ∧ ∃ x k2 vs, e = .ref x ∧ ExcAt H' x (.ref CE) (.ref k2) .none ∧ H' k2 = some (⟨72, 0, []⟩, recC (.type "KeyError") vs) ∧ vs[2]? = some .none) := by
  refine call_fn (P := fun ab H' => ab = ([("self", .ref (loc (tX gid))), ("n", .int n)] : List (Str × AV)) ∧ H' = H) hf rfl rm.room ?_ ?_ ?_
  · intro name doc pm an ct W s vs kvs ok h1 h2
    cases h2
    cases h1 with | cons r1 h1 => cases h1 with | cons r2 h1 => cases h1 with | nil =>
    rename_i v1 v2
    refine BindsTo.of_eq (binds := [("self", v1), ("n", v2)]) rfl _ _ _ _ ⟨W, H, _, Post.refl ok, ?_, rfl, rfl⟩
    exact .cons ⟨rfl, r1⟩ (.cons ⟨rfl, r2⟩ .nil)
  · rintro ab H' ⟨rfl, rfl⟩
    rfl
  · rintro L ab H' ⟨rfl, rfl⟩ hL
    have rm' := rm.deeper (envOf "Graph.neighbors" (fscope sNb) L f cdv)
    by_cases hu : n ∈ g.keys
    · refine as_cons (a1_tryN (as_cons (a1_returnE (ae_callW (pe_blt gI bI) con_is keep_builtin (al_cons (ae_pe (pe_row k ⟨rfl, rfl, rfl, rfl⟩ ⟨rfl, rfl, rfl, rfl⟩ hg.x hg.d hg.att.a hg.a hu) (al_nil ?_)))))))
      refine CallW.mono (cw_iter (E' := fun _ _ => False) (iter_dI t (hg.ad hu))) ?_ fun _ _ z => z.elim
      rintro r H1 ⟨it, rfl, hit, ob, rfl⟩
      exact ⟨hu, it, rfl, hit, ob, rfl⟩
    · refine as_cons (a1_try (as_cons (a1_returnE (ae_callW (pe_blt gI bI) con_is keep_builtin (al_cons (ae_sub_miss (pe_own k (pe_name rfl) hg.x hg.d hg.att.a) (pe_name rfl) hg.a (by rw [look_refs, if_neg hu]) rm'.h rfl fun e H5 x5 k5 => ⟨e, _, _, rfl, .inl x5, fun H6 k6 x6 => ?_⟩))))))
      refine ah_as (pe_blt gK bK) con_is x6 xK (fun H7 k7 x7 => ?_)
      obtain ⟨te, vs, T, tT, ts, he7, hte, h71, h72, _⟩ := id x7
      refine AS.retag (t' := ⟨72, 0, []⟩) he7 rfl ?_
      refine as_cons (a1_raise_from2 hE (k := e) (kcls := .type "KeyError") rfl hKE (ae_exc hE (pe_glob gE) (al_cons (ae_pe (pe_fstr (pj_str (by decide) (pj_int (pe_name rfl) h0 h9 (by decide) (pj_str ?_ (pj_nil ?_))))) (al_nil ⟨by simp, fun ne t0 hne => ?_⟩)))))
      · rw [strLen_append, strLen_append]
        have z := int_text_small h0 h9
        have e1 : (Str.empty ++ Str.ofString "The node ").length = 9 := by decide
        have e2 : (Str.ofString " is not in the graph.").length = 21 := by decide
        omega
      · rw [strLen_append, strLen_append]
        have z := int_text_small h0 h9
        have e1 : (Str.empty ++ Str.ofString "The node ").length = 9 := by decide
        have e2 : (Str.ofString " is not in the graph.").length = 21 := by decide
        omega
      · have hk : ne ≠ e := fun e' => by rw [e', upd_same] at hne; cases hne
        have h10 : ∀ t o, upd (upd H7 e (⟨72, 0, []⟩, recC (.type "KeyError") vs)) ne (t, o) e = some (⟨72, 0, []⟩, recC (.type "KeyError") vs) := fun t o => upd_of (Ne.symm hk) upd_same
        refine ⟨ne, t0, ⟨72, 0, []⟩, vs, rfl, upd_same, hk, h10 _ _, h72, pe_name rfl, fun H8 k8 x8 => ?_⟩
        refine ⟨ne, _, _, rfl, .inl x8, fun m' H9 k9 x9 => leaves_at x9 fun H10 k10 x10 => ⟨hu, ?_, ne, e, vs, rfl, x10, ?_, h72⟩⟩
        · exact ((((((k5.trans k6).trans k7).trans (Keeps.upd fun t o q => by rw [he7] at q; cases q; exact hte)).trans (Keeps.upd fun t o q => by rw [hne] at q; cases q)).trans k8).trans k9).trans k10
        · exact k10 _ _ _ (k9 _ _ _ (k8 _ _ _ (h10 _ _) (by decide)) (by decide)) (by decide)
theorem successors2 (t : Tag) {f : Addr} {cdv : Value} (hf : FnIs c f "DiGraph.successors" (fpars sNbd) (fbody sNbd) (fscope sNbd) .none .none cdv) (gK : c.mg "KeyError" = none) (bK : c.mb "KeyError" = some (.type "KeyError")) (xK : exmOne c.K (.type "KeyError") (.type "KeyError") = some true)
    (gI : c.mg "iter" = none) (bI : c.mb "iter" = some (.builtin "iter")) (gE : c.mg "NetworkXError" = some (.ref CE)) (hE : ExcC c CE) (hKE : subIn c.K (.type "KeyError") (.type "BaseException") = some true)
    (hdir : dir = true) (k : Kls c dir C CN) (rm : Rm A 1) (hg : GAt gid dir C CN loc mm g H) (hg0 : gid ≠ xo) {n : Int} (h0 : 0 ≤ n) (h9 : n < 10) :
    CallOk nf c A H (.ref f) [.ref (loc (tX gid)), .int n] [] (fun r H' => n ∈ g.keys ∧ ∃ it, r = .ref it ∧ NbrIt H (loc (tAd gid n)) (tAd gid n) t (refs (fun v => loc (tEd gid (ek dir n v))) (g.adj n)) it H')
      (fun e H' => n ∉ g.keys ∧ Keeps H H' ∧ ∃ x k2 vs, e = .ref x ∧ ExcAt H' x (.ref CE) (.ref k2) .none ∧ H' k2 = some (⟨72, 0, []⟩, recC (.type "KeyError") vs) ∧ vs[2]? = some .none) := by
  refine call_fn (P := fun ab H' => ab = ([("self", .ref (loc (tX gid))), ("n", .int n)] : List (Str × AV)) ∧ H' = H) hf rfl rm.room ?_ ?_ ?_
  · intro name doc pm an ct W s vs kvs ok h1 h2
    cases h2
    cases h1 with | cons r1 h1 => cases h1 with | cons r2 h1 => cases h1 with | nil =>
    rename_i v1 v2
    refine BindsTo.of_eq (binds := [("self", v1), ("n", v2)]) rfl _ _ _ _ ⟨W, H, _, Post.refl ok, ?_, rfl, rfl⟩
    exact .cons ⟨rfl, r1⟩ (.cons ⟨rfl, r2⟩ .nil)
  · rintro ab H' ⟨rfl, rfl⟩
    rfl
  · rintro L ab H' ⟨rfl, rfl⟩ hL
    have rm' := rm.deeper (envOf "DiGraph.successors" (fscope sNbd) L f cdv)
    by_cases hu : n ∈ g.keys
    · refine as_cons (a1_tryN (as_cons (a1_returnE (ae_callW (pe_blt gI bI) con_is keep_builtin (al_cons (ae_pe (pe_row k ⟨rfl, rfl, rfl, rfl⟩ ⟨rfl, rfl, rfl, rfl⟩ hg.x hg.d (hg.att.s hdir) hg.a hu) (al_nil ?_)))))))
      refine CallW.mono (cw_iter (E' := fun _ _ => False) (iter_dI t (hg.ad hu))) ?_ fun _ _ z => z.elim
      rintro r H1 ⟨it, rfl, hit, ob, rfl⟩
      exact ⟨hu, it, rfl, hit, ob, rfl⟩
    · refine as_cons (a1_try (as_cons (a1_returnE (ae_callW (pe_blt gI bI) con_is keep_builtin (al_cons (ae_sub_miss (pe_own k (pe_name rfl) hg.x hg.d (hg.att.s hdir)) (pe_name rfl) hg.a (by rw [look_refs, if_neg hu]) rm'.h rfl fun e H5 x5 k5 => ⟨e, _, _, rfl, .inl x5, fun H6 k6 x6 => ?_⟩))))))
      refine ah_as (pe_blt gK bK) con_is x6 xK (fun H7 k7 x7 => ?_)
      obtain ⟨te, vs, T, tT, ts, he7, hte, h71, h72, _⟩ := id x7
      refine AS.retag (t' := ⟨72, 0, []⟩) he7 rfl ?_
      refine as_cons (a1_raise_from2 hE (k := e) (kcls := .type "KeyError") rfl hKE (ae_exc hE (pe_glob gE) (al_cons (ae_pe (pe_fstr (pj_str (by decide) (pj_int (pe_name rfl) h0 h9 (by decide) (pj_str ?_ (pj_nil ?_))))) (al_nil ⟨by simp, fun ne t0 hne => ?_⟩)))))
      · rw [strLen_append, strLen_append]
        have z := int_text_small h0 h9
        have e1 : (Str.empty ++ Str.ofString "The node ").length = 9 := by decide
        have e2 : (Str.ofString " is not in the digraph.").length = 23 := by decide
        omega
      · rw [strLen_append, strLen_append]
        have z := int_text_small h0 h9
        have e1 : (Str.empty ++ Str.ofString "The node ").length = 9 := by decide
        have e2 : (Str.ofString " is not in the digraph.").length = 23 := by decide
        omega
      · have hk : ne ≠ e := fun e' => by rw [e', upd_same] at hne; cases hne
        have h10 : ∀ t o, upd (upd H7 e (⟨72, 0, []⟩, recC (.type "KeyError") vs)) ne (t, o) e = some (⟨72, 0, []⟩, recC (.type "KeyError") vs) := fun t o => upd_of (Ne.symm hk) upd_same
        refine ⟨ne, t0, ⟨72, 0, []⟩, vs, rfl, upd_same, hk, h10 _ _, h72, pe_name rfl, fun H8 k8 x8 => ?_⟩
        refine ⟨ne, _, _, rfl, .inl x8, fun m' H9 k9 x9 => leaves_at x9 fun H10 k10 x10 => ⟨hu, ?_, ne, e, vs, rfl, x10, ?_, h72⟩⟩
        · exact ((((((k5.trans k6).trans k7).trans (Keeps.upd fun t o q => by rw [he7] at q; cases q; exact hte)).trans (Keeps.upd fun t o q => by rw [hne] at q; cases q)).trans k8).trans k9).trans k10
        · exact k10 _ _ _ (k9 _ _ _ (k8 _ _ _ (h10 _ _) (by decide)) (by decide)) (by decide)
end
end Nx
end
section
set_option autoImplicit false
namespace Nx
section
variable {nf : Bool} {c : Cx} {A : Around} {H : AHeap} {CN : Addr}
theorem cp_len_pin {d : Addr} {t : Tag} {ob : Obj} {l : List (Int × AV)} (hd : H d = some (t, .pin ob (.dI l))) : CallP c A H (.builtin "len") [.ref d] (.int l.length) := fun W s vs ok hv => by
  cases hv with | cons r1 hv => cases hv with | nil =>
  obtain rfl : _ = Value.ref d := r1
  obtain ⟨o, g, rfl, kvs, D, kv, z⟩ := ok.get hd
  have D : Heap.DictOf (intKind c.prog c.w) s.heap d kvs := Heap.dictOf_iff.mpr ⟨_, g, D⟩
  have hl := kv.length
  refine call_len_dict (c.noMods (ok.own _ _ _ hd).1) D (by omega) (fin (Post.refl ok) ?_)
  rw [hl]
  exact VR.int'
/-- a view, measured and iterated -/
theorem vLen {f ps : Addr} {cdv : Value} (hf : FnIs c f "NodeView.__len__" (fpars sVL) (fbody sVL) (fscope sVL) .none .none cdv) (hS : SlotIs c CN "_nodes" ps) (gL : c.mg "len" = none) (bL : c.mb "len" = some (.builtin "len")) (rm : Rm A 1) {a d dN : Addr} {tv td tN : Tag} {ob : Obj} {l : List (Int × AV)} (ha : H a = some (tv, .slot1 CN d (.ref dN))) (hd : H d = some (td, .nS [])) (hN : H dN = some (tN, .pin ob (.dI l))) :
    CallOk nf c A H (.ref f) [.ref a] [] (fun r H' => r = .int l.length ∧ H' = H) (fun _ _ => False) := by
  refine call_fn (P := fun ab H' => ab = ([("self", .ref a)] : List (Str × AV)) ∧ H' = H) hf rfl rm.room ?_ ?_ ?_
  · intro name doc pm an ct W s vs kvs ok h1 h2
    cases h2
    cases h1 with | cons r1 h1 => cases h1 with | nil =>
    rename_i v1
    exact BindsTo.of_eq (binds := [("self", v1)]) rfl _ _ _ _ ⟨W, H, _, Post.refl ok, .cons ⟨rfl, r1⟩ .nil, rfl, rfl⟩
  · rintro ab H' ⟨rfl, rfl⟩
    rfl
  · rintro L ab H' ⟨rfl, rfl⟩ hL
    exact as_cons (a1_return (pe_call (pe_blt gL bL) con_is keep_builtin (pl_cons (pe_slot (pe_name rfl) ha hd hS) pl_nil) (cp_len_pin hN)) ⟨rfl, rfl⟩)
theorem vIter (t : Tag) {f ps : Addr} {cdv : Value} (hf : FnIs c f "NodeView.__iter__" (fpars sVIt) (fbody sVIt) (fscope sVIt) .none .none cdv) (hS : SlotIs c CN "_nodes" ps) (gI : c.mg "iter" = none) (bI : c.mb "iter" = some (.builtin "iter")) (rm : Rm A 1) {a d dN : Addr} {tv td tN : Tag} {l : List (Int × AV)} (ha : H a = some (tv, .slot1 CN d (.ref dN))) (hd : H d = some (td, .nS [])) (hN : H dN = some (tN, .dI l)) :
    CallOk nf c A H (.ref f) [.ref a] [] (fun r H' => ∃ it, r = .ref it ∧ H it = none ∧ ∃ ob, H' = upd (upd H dN (tN, .pin ob (.dI l))) it (t, keyIt dN 0 l.length (epOf ob))) (fun _ _ => False) := by
  refine call_fn (P := fun ab H' => ab = ([("self", .ref a)] : List (Str × AV)) ∧ H' = H) hf rfl rm.room ?_ ?_ ?_
  · intro name doc pm an ct W s vs kvs ok h1 h2
    cases h2
    cases h1 with | cons r1 h1 => cases h1 with | nil =>
    rename_i v1
    exact BindsTo.of_eq (binds := [("self", v1)]) rfl _ _ _ _ ⟨W, H, _, Post.refl ok, .cons ⟨rfl, r1⟩ .nil, rfl, rfl⟩
  · rintro ab H' ⟨rfl, rfl⟩
    rfl
  · rintro L ab H' ⟨rfl, rfl⟩ hL
    refine as_cons (a1_returnE (ae_callW (pe_blt gI bI) con_is keep_builtin (al_cons (ae_pe (pe_slot (pe_name rfl) ha hd hS) (al_nil ?_)))))
    refine CallW.mono (cw_iter (E' := fun _ _ => False) (iter_dI t hN)) ?_ fun _ _ z => z.elim
    rintro r H1 ⟨it, rfl, hit, ob, rfl⟩
    exact ⟨it, rfl, hit, ob, rfl⟩
end
/-- what a class of graphs does -/
structure GOps (c : Cx) (dir : Bool) (C CN CE D : Addr) : Prop where
  k : Kls c dir C CN
  makes : MakesG c dir C CN
  fresh : Fresh c dir C CN
  addN : AddNodes c dir C CN
  addE : AddEdges c dir C CN
  add1 : ∃ f, MethIs c C "add_edge" f ∧ KeepOk c (.ref f) ∧ ∀ (nf : Bool) (A : Around) (H : AHeap) (gid : Nat) (loc : Loc) (mm : List (Str × AV)) (g : GC) (u v : Int) (kw : List (Str × Int)), Rm A 2 → GAt gid dir C CN loc mm g H → 0 ≤ u → u < 5 → 0 ≤ v → v < 5 → Kw1 kw →
    CallOk nf c A H (.ref f) [.ref (loc (tX gid)), .int u, .int v] (nums kw) (fun r H' => r = .none ∧ ∃ loc', GAt gid dir C CN loc' mm (((g.node u).node v).edge dir u v kw) H' ∧ Same gid loc loc' ∧ Frame gid H H') (fun _ _ => False)
  copy : ∃ f, MethIs c C "copy" f ∧ KeepOk c (.ref f) ∧ ∀ (nf : Bool) (A : Around) (H : AHeap) (gid gid0 sid : Nat) (loc0 : Loc) (mm0 : List (Str × AV)) (g0 : GC), Apart gid gid0 sid → Rm A 6 → GAt gid0 dir C CN loc0 mm0 g0 H →
    CallOk nf c A H (.ref f) [.ref (loc0 (tX gid0))] [] (fun v H' => ∃ (loc : Loc) (mm : List (Str × AV)), v = .ref (loc (tX gid)) ∧ look mm "nodes" = none ∧ GAt gid dir C CN loc mm (g0.copyOf dir) H' ∧ GAt gid0 dir C CN loc0 mm0 g0 H' ∧
      (∀ b t o, H b = some (t, o) → t.own ≠ gid → t.own ≠ sid → t.own ≠ xo → t.own ≠ gid0 → H' b = some (t, o))) (fun _ _ => False)
  hasE : ∃ f, MethIs c C "has_edge" f ∧ KeepOk c (.ref f) ∧ ∀ (nf : Bool) (A : Around) (H : AHeap) (gid : Nat) (loc : Loc) (mm : List (Str × AV)) (g : GC) (u v : Int), Rm A 1 → GAt gid dir C CN loc mm g H → gid ≠ xo →
    CallOk nf c A H (.ref f) [.ref (loc (tX gid)), .int u, .int v] [] (fun r H' => r = .bool (g.eg (ek dir u v)).isSome ∧ Keeps H H') (fun _ _ => False)
  cont : ∃ f, findIn c.K (.ref C) "__contains__" = some (some (.ref f)) ∧ isFn c.K (.ref f) = true ∧ ∀ (nf : Bool) (A : Around) (H : AHeap) (gid : Nat) (loc : Loc) (mm : List (Str × AV)) (g : GC) (n : Int), Rm A 1 → GAt gid dir C CN loc mm g H →
    CallOk nf c A H (.ref f) [.ref (loc (tX gid)), .int n] [] (fun r H' => r = .bool (decide (n ∈ g.keys)) ∧ H' = H) (fun _ _ => False)
  nbr : ∃ f, MethIs c C "neighbors" f ∧ KeepOk c (.ref f) ∧ ∀ (nf : Bool) (A : Around) (H : AHeap) (gid : Nat) (loc : Loc) (mm : List (Str × AV)) (g : GC) (n : Int) (t : Tag), Rm A 1 → GAt gid dir C CN loc mm g H → gid ≠ xo → 0 ≤ n → n < 10 →
    CallOk nf c A H (.ref f) [.ref (loc (tX gid)), .int n] [] (fun r H' => n ∈ g.keys ∧ ∃ it, r = .ref it ∧ NbrIt H (loc (tAd gid n)) (tAd gid n) t (refs (fun v => loc (tEd gid (ek dir n v))) (g.adj n)) it H')
      (fun e H' => n ∉ g.keys ∧ Keeps H H' ∧ ∃ x k2 vs, e = .ref x ∧ ExcAt H' x (.ref CE) (.ref k2) .none ∧ H' k2 = some (⟨72, 0, []⟩, recC (.type "KeyError") vs) ∧ vs[2]? = some .none)
  nodes : ∃ f cdv, FnIs c f "Graph.nodes" (fpars sND) (fbody sND) (fscope sND) .none .none cdv ∧ CacheFn c C "nodes" f ∧ c.mg "NodeView" = some (.ref CN) ∧ ViewIs c CN
  get : ∃ f, findIn c.K (.ref C) "__getitem__" = some (some (.ref f)) ∧ fnIn c.K f = true ∧ typeIn c.K (.ref f) = some (.type "function") ∧ ∀ (A : Around) (H : AHeap) (gid : Nat) (loc : Loc) (mm : List (Str × AV)) (g : GC) (n : Int), Rm A 4 → GAt gid dir C CN loc mm g H → n ∈ g.keys →
    CallOk true c A H (.ref f) [.ref (loc (tX gid)), .int n] [] (fun r H' => r = .ref (loc (tAd gid n)) ∧ ∃ mm', GAt gid dir C CN loc mm' g H' ∧ Frame gid H H') (fun _ _ => False)
  vget : ∃ f, findIn c.K (.ref CN) "__getitem__" = some (some (.ref f)) ∧ fnIn c.K f = true ∧ typeIn c.K (.ref f) = some (.type "function") ∧ ∀ (nf : Bool) (A : Around) (H : AHeap) (gid : Nat) (loc : Loc) (mm : List (Str × AV)) (g : GC) (a d : Addr) (n : Int), Rm A 1 → GAt gid dir C CN loc mm g H → H a = some (tV gid, .slot1 CN d (.ref (loc (tN gid)))) → H d = some (tW gid, .nS []) → n ∈ g.keys →
    CallOk nf c A H (.ref f) [.ref a, .int n] [] (fun r H' => r = .ref (loc (tNd gid n)) ∧ H' = H) (fun _ _ => False)
  vops : ∃ fI fL, ViewOps c CN fI fL ∧ (∀ (A : Around) (H : AHeap) (a d dN : Addr) (tv td tN t : Tag) (l : List (Int × AV)), Rm A 1 → H a = some (tv, .slot1 CN d (.ref dN)) → H d = some (td, .nS []) → H dN = some (tN, .dI l) →
      CallOk false c A H (.ref fI) [.ref a] [] (fun r H' => ∃ it, r = .ref it ∧ H it = none ∧ ∃ ob, H' = upd (upd H dN (tN, .pin ob (.dI l))) it (t, keyIt dN 0 l.length (epOf ob))) (fun _ _ => False)) ∧
    (∀ (A : Around) (H : AHeap) (a d dN : Addr) (tv td tN : Tag) (ob : Obj) (l : List (Int × AV)), Rm A 1 → H a = some (tv, .slot1 CN d (.ref dN)) → H d = some (td, .nS []) → H dN = some (tN, .pin ob (.dI l)) →
      CallOk false c A H (.ref fL) [.ref a] [] (fun r H' => r = .int l.length ∧ H' = H) (fun _ _ => False))
  isi : if dir = true then C = D else NotIs c C D
  xE : exmOne c.K (.ref CE) (.ref CE) = some true
/-- names of the text's top that the law uses -/
structure LawG (c : Cx) (CE D Cg : Addr) : Prop where
  gE : c.mg "NetworkXError" = some (.ref CE)
  gD : c.mg "DiGraph" = some (.ref D)
  gG : c.mg "Graph" = some (.ref Cg)
  gb : ∀ x ∈ (["isinstance", "sorted", "range", "min", "max", "dict", "abs", "len", "iter"] : List Str), c.mg x = none
  bi : c.mb "isinstance" = some (.builtin "isinstance")
  bs : c.mb "sorted" = some (.builtin "sorted")
  br : c.mb "range" = some (.type "range")
  bmi : c.mb "min" = some (.builtin "min")
  bma : c.mb "max" = some (.builtin "max")
  bd : c.mb "dict" = some (.type "dict")
  kD : KeepOk c (.ref D)
  kG : KeepOk c (.ref Cg)
end Nx
end
section
set_option autoImplicit false
namespace Nx
abbrev sSm := top 20
/-- what a law's helper leaves -/
def FrJ (k gid : Nat) (H H' : AHeap) : Prop := ∀ b t o, H b = some (t, o) → t.own ≠ gid → t.own ≠ xo → ¬ (60 ≤ t.own ∧ t.own < k) → H' b = some (t, o)
theorem FrJ.refl (k gid : Nat) (H : AHeap) : FrJ k gid H H := fun _ _ _ h _ _ _ => h
theorem FrJ.trans {k gid : Nat} {H H' H'' : AHeap} (x : FrJ k gid H H') (y : FrJ k gid H' H'') : FrJ k gid H H'' := fun b t o h n1 n2 n3 => y b t o (x b t o h n1 n2 n3) n1 n2 n3
theorem FrJ.mono {k k' gid : Nat} {H H' : AHeap} (x : FrJ k gid H H') (h : k ≤ k') : FrJ k' gid H H' := fun b t o hb n1 n2 n3 => x b t o hb n1 n2 fun z => n3 ⟨z.1, Nat.lt_of_lt_of_le z.2 h⟩
theorem Frame.f60 {k gid : Nat} {H H' : AHeap} (h : Frame gid H H') : FrJ k gid H H' := fun b t o hb n1 n2 _ => h b t o hb n1 n2
theorem Frame.r60 {rid k gid : Nat} {H H' : AHeap} (h : Frame rid H H') (h1 : 60 ≤ rid) (h2 : rid < k) : FrJ k gid H H' := fun b t o hb _ n2 n3 => h b t o hb (fun e => n3 (by rw [e]; exact ⟨h1, h2⟩)) n2
theorem Keeps.f60 {k gid : Nat} {H H' : AHeap} (h : Keeps H H') : FrJ k gid H H' := fun b t o hb _ n2 _ => h b t o hb n2
theorem GAt.f60 {k gid gid' : Nat} {dir : Bool} {C CN : Addr} {loc : Loc} {mm : List (Str × AV)} {g : GC} {H H' : AHeap} (h : GAt gid dir C CN loc mm g H) (f : FrJ k gid' H H') (hk : k ≤ 100) (hg : gid ≠ gid') (h0 : 0 < gid) (h5 : gid < 50) (h5' : gid' < 50) : GAt gid dir C CN loc mm g H' :=
  ⟨fun t o hw => by
    have e : t.own = gid := wantG_own (by rw [hw]; exact fun z => nomatch z)
    exact f _ _ _ (h.at_ t o hw) (by rw [e]; exact hg) (by rw [e]; show gid ≠ 0; omega) (by rw [e]; omega), h.att, h.wf,
    h.nv.imp id fun ⟨a, d, h1, h2, h3⟩ => ⟨a, d, h1, f _ _ _ h2 (by show gid + 100 ≠ gid'; omega) (by show gid + 100 ≠ 0; omega) (by show ¬ (60 ≤ gid + 100 ∧ gid + 100 < k); omega), f _ _ _ h3 (by show gid + 100 ≠ gid'; omega) (by show gid + 100 ≠ 0; omega) (by show ¬ (60 ≤ gid + 100 ∧ gid + 100 < k); omega)⟩⟩
/-- the law's own dicts, and the graph's -/
structure Rel (g : GC) (n : List (Int × List (Str × Int))) (e : List ((Int × Int) × List (Str × Int))) (w : List (Str × Int)) : Prop where
  n : g.nodes = n
  e : ∀ k, g.eg k = look e k
  w : g.whole = w
structure DAt (dn de dw : Addr) (tn te tw : Tag) (n : List (Int × List (Str × Int))) (e : List ((Int × Int) × List (Str × Int))) (w : List (Str × Int)) (H : AHeap) : Prop where
  n : H dn = some (tn, .dI (fdR n))
  e : H de = some (te, .dP (fdR e))
  w : H dw = some (tw, .dS (nums w))
def Law5 (t : Tag) : Prop := 50 ≤ t.own ∧ t.own < 60
theorem DAt.f60 {k gid : Nat} {H H' : AHeap} {dn de dw : Addr} {tn te tw : Tag} {n : List (Int × List (Str × Int))} {e : List ((Int × Int) × List (Str × Int))} {w : List (Str × Int)} (h : DAt dn de dw tn te tw n e w H) (f : FrJ k gid H H') (hg : gid < 50) (h1 : Law5 tn) (h2 : Law5 te) (h3 : Law5 tw) : DAt dn de dw tn te tw n e w H' := by
  obtain ⟨a1, a2⟩ := h1
  obtain ⟨b1, b2⟩ := h2
  obtain ⟨c1, c2⟩ := h3
  exact ⟨f _ _ _ h.n (by omega) (by show _ ≠ 0; omega) (by omega), f _ _ _ h.e (by omega) (by show _ ≠ 0; omega) (by omega), f _ _ _ h.w (by omega) (by show _ ≠ 0; omega) (by omega)⟩
theorem DAt.fr {rid : Nat} {H H' : AHeap} {dn de dw : Addr} {tn te tw : Tag} {n : List (Int × List (Str × Int))} {e : List ((Int × Int) × List (Str × Int))} {w : List (Str × Int)} (h : DAt dn de dw tn te tw n e w H) (f : Frame rid H H') (hr : ¬ (50 ≤ rid ∧ rid < 60)) (h1 : Law5 tn) (h2 : Law5 te) (h3 : Law5 tw) : DAt dn de dw tn te tw n e w H' := by
  obtain ⟨a1, a2⟩ := h1
  obtain ⟨b1, b2⟩ := h2
  obtain ⟨c1, c2⟩ := h3
  exact ⟨f _ _ _ h.n (by omega) (by show _ ≠ 0; omega), f _ _ _ h.e (by omega) (by show _ ≠ 0; omega), f _ _ _ h.w (by omega) (by show _ ≠ 0; omega)⟩
section
variable {c : Cx} {A : Around} {H : AHeap} {gid : Nat} {dir : Bool} {C CN CE D Cg : Addr} {loc : Loc} {mm : List (Str × AV)} {g : GC} {env : Env} {m : LM} {E : AV → LM → AHeap → Prop}
/-- sorted(graph.nodes) -/
theorem ae_sorted_nodes (hO : GOps c dir C CN CE D) (hG : LawG c CE D Cg) (rm : Rm A 6) (hg : GAt gid dir C CN loc mm g H) {o : Expr} {p1 p2 p3 : Pos} {Q : AV → LM → AHeap → Prop} (ho : PE c A env m H o (.ref (loc (tX gid))))
    (q : ∀ (b : Addr) (ns : List Int) (mm' : List (Str × AV)) (H' : AHeap), GAt gid dir C CN loc mm' g H' → FrJ 80 gid H H' → H' b = some (⟨70, 0, []⟩, .list (ns.map AV.int)) → ns.Perm g.keys → ns.Pairwise (· ≤ ·) → Q (.ref b) m H')
    (hg1 : env.globals = mainGlobals := by rfl) (hb1 : env.builtins = builtinsNs := by rfl) (hk1 : env.scope.kind = .function := by rfl) (hl1 : env.kindOf "sorted" = some .globalImplicit := by rfl)
    (he : eval (.Attribute o "nodes" p2) env = (do let ov ← eval o env; standAt p2.atName; let r ← holding [ov] (getAttr ov "nodes" true); letTemporaryGo o ov r; pure r) := by rfl)
    (hst : starEach [.Attribute o "nodes" p2] env = (false, eval (.Attribute o "nodes" p2) env) :: starEach [] env := by rfl)
    (hp : (backTo p3 (starEach [.Attribute o "nodes" p2] env)).any (·.1) = false := by rfl)
    (he2 : eval (.Call (.Name "sorted" p1) [.Attribute o "nodes" p2] [] p3) env = (do let fv ← eval (.Name "sorted" p1) env; callWith p3 fv [] (backTo p3 (starEach [.Attribute o "nodes" p2] env)) (backToKw p3 (keywordEach [] env))) := by rfl) :
    AE true c A env m H (.Call (.Name "sorted" p1) [.Attribute o "nodes" p2] [] p3) Q E := by
  obtain ⟨fN, cdN, hN, hCN, gV, hV⟩ := hO.nodes
  obtain ⟨fI, fL, vo, vI, vL⟩ := hO.vops
  refine ae_callW (pe_blt (hG.gb _ (by decide)) hG.bs hg1 hb1 hk1 hl1) con_is keep_builtin (al_cons (ae_nodes hN hCN gV hV hO.k (rm.less (by omega)) hg ho ?_ he) hst) hp he2
  intro a d mm' H1 hg1 f1 hnd ha hd
  refine al_nil (CallW.mono (cw_sorted_view ⟨70, 0, []⟩ ⟨70, 1, []⟩ rm.h vo ha hd hg1.n (by have := hg1.wf.count; rw [refs_length]; omega)
    (fun H' gr => vI _ _ _ _ _ _ _ _ _ _ (rm.in1.in1.less (by omega)) (gr _ _ ha) (gr _ _ hd) (gr _ _ hg1.n)) (fun H' ob h1 h2 h3 => vL _ _ _ _ _ _ _ _ _ _ (rm.in1.in1.in1.less (by omega)) h1 h2 h3)) ?_ fun _ _ z => z)
  rintro r H2 ⟨b, ns, hb, rfl, hp1, hs1, rfl⟩
  have f2 : FrJ 80 gid H1 (upd H1 b (⟨70, 0, []⟩, .list (ns.map AV.int))) := (Frame.new (gid := gid) hb).f60
  refine q b ns mm' _ ?_ (f1.f60.trans f2) upd_same ?_ hs1
  · exact ⟨fun t o ht => upd_new hb (hg1.at_ t o ht), hg1.att, hg1.wf, hg1.nv_keep (Frame.new hb) (Same.refl _ _)⟩
  · have : (refs (fun n => loc (tNd gid n)) g.keys).map (·.1) = g.keys := by unfold refs; rw [List.map_map]; exact List.map_id _
    rw [this] at hp1; exact hp1
/-- sorted(graph.neighbors(a)) -/
theorem ae_sorted_nbr {nf : Bool} (hO : GOps c dir C CN CE D) (hG : LawG c CE D Cg) (rm : Rm A 6) (hg : GAt gid dir C CN loc mm g H) (hg0 : gid ≠ xo) {o ea : Expr} {p1 p2 p3 p4 : Pos} {n : Int} {Q : AV → LM → AHeap → Prop} (ho : PE c A env m H o (.ref (loc (tX gid)))) (hn : PE c A env m H ea (.int n)) (h0 : 0 ≤ n) (h9 : n < 10)
    (q : n ∈ g.keys → ∀ (b : Addr) (ns : List Int) (H' : AHeap), GAt gid dir C CN loc mm g H' → FrJ 80 gid H H' → H' b = some (⟨71, 0, []⟩, .list (ns.map AV.int)) → ns.Perm (g.adj n) → Q (.ref b) m H')
    (qe : n ∉ g.keys → ∀ (x k2 : Addr) (vs : List Value) (H' : AHeap), Keeps H H' → ExcAt H' x (.ref CE) (.ref k2) .none → H' k2 = some (⟨72, 0, []⟩, recC (.type "KeyError") vs) → vs[2]? = some .none → E (.ref x) m H')
    (hg1 : env.globals = mainGlobals := by rfl) (hb1 : env.builtins = builtinsNs := by rfl) (hk1 : env.scope.kind = .function := by rfl) (hl1 : env.kindOf "sorted" = some .globalImplicit := by rfl)
    (he : ∃ pl, eval (.Call (.Attribute o "neighbors" p2) [ea] [] p3) env = (do
      let ov ← eval o env
      standAt p2.atName
      let (f, first) ← holding [ov] (getMethod ov "neighbors" pl)
      callWith p3 f first (backTo p3 (starEach [ea] env)) (backToKw p3 (keywordEach [] env))) := by exact ⟨_, rfl⟩)
    (hst0 : starEach (ea :: []) env = (false, eval ea env) :: starEach [] env := by rfl) (hp0 : (backTo p3 (starEach [ea] env)).any (·.1) = false := by rfl)
    (hst : starEach [.Call (.Attribute o "neighbors" p2) [ea] [] p3] env = (false, eval (.Call (.Attribute o "neighbors" p2) [ea] [] p3) env) :: starEach [] env := by rfl)
    (hp : (backTo p4 (starEach [.Call (.Attribute o "neighbors" p2) [ea] [] p3] env)).any (·.1) = false := by rfl)
    (he2 : eval (.Call (.Name "sorted" p1) [.Call (.Attribute o "neighbors" p2) [ea] [] p3] [] p4) env = (do let fv ← eval (.Name "sorted" p1) env; callWith p4 fv [] (backTo p4 (starEach [.Call (.Attribute o "neighbors" p2) [ea] [] p3] env)) (backToKw p4 (keywordEach [] env))) := by rfl) :
    AE nf c A env m H (.Call (.Name "sorted" p1) [.Call (.Attribute o "neighbors" p2) [ea] [] p3] [] p4) Q E := by
  obtain ⟨fB, hBm, hBk, hBc⟩ := hO.nbr
  refine ae_callW (pe_blt (hG.gb _ (by decide)) hG.bs hg1 hb1 hk1 hl1) con_is keep_builtin (al_cons (ae_meth (names := []) ho hg.x hg.d hBm (hg.att.other _ (by decide)) hBk (al_cons (ae_pe hn (al_nil ⟨[], kw_nil, rfl, ?_⟩)) hst0) rfl rfl hp0 he) hst) hp he2
  refine CallOk.mono (hBc nf A H gid loc mm g n ⟨71, 1, []⟩ (rm.less (by omega)) hg hg0 h0 h9) ?_ ?_
  · rintro v H1 ⟨hk, it, rfl, hit, ob, rfl⟩
    have hd := hg.ad hk
    have nit : it ≠ loc (tAd gid n) := fun e => by rw [← e, hit] at hd; cases hd
    refine al_nil (CallW.mono (cw_sorted_keyIt (l := refs (fun v => loc (tEd gid (ek dir n v))) (g.adj n)) ⟨71, 0, []⟩ rm.h upd_same (upd_of (Ne.symm nit) upd_same) nit (by have := hg.wf.adjc n; rw [refs_length]; omega)) ?_ fun _ _ z => z)
    rintro r H2 ⟨b, ns, hb, rfl, hp1, hs1, rfl⟩
    have hnb : b ≠ it := fun e => by rw [e, upd_same] at hb; cases hb
    have hbd : b ≠ loc (tAd gid n) := fun e => by rw [e, upd_of (Ne.symm nit) upd_same] at hb; cases hb
    have hbH : H b = none := by rw [upd_ne hnb, upd_ne hbd] at hb; exact hb
    rw [drop_upd ((upd_ne nit).trans hit), upd_upd, upd_eq hd]
    refine q hk b ns _ ?_ (Frame.new (gid := gid) hbH).f60 upd_same ?_
    · exact ⟨fun t o ht => upd_new hbH (hg.at_ t o ht), hg.att, hg.wf, hg.nv_keep (Frame.new hbH) (Same.refl _ _)⟩
    · have : (refs (fun v => loc (tEd gid (ek dir n v))) (g.adj n)).map (·.1) = g.adj n := by unfold refs; rw [List.map_map]; exact List.map_id _
      rw [this] at hp1; exact hp1
  · rintro e H1 ⟨hk, kk, x, k2, vs, rfl, hx, h2, h3⟩
    exact qe hk x k2 vs H1 kk hx h2 h3
/-- a in graph -/
theorem pe_in_graph (hO : GOps c dir C CN CE D) (rm : Rm A 1) (hg : GAt gid dir C CN loc mm g H) {o ea : Expr} {p : Pos} {n : Int} (hn : PE c A env m H ea (.int n)) (ho : PE c A env m H o (.ref (loc (tX gid)))) (hm : behindInMarks .In o = false := by rfl) : PE c A env m H (.Compare ea [.In] [o] p) (.bool (decide (n ∈ g.keys))) := by
  obtain ⟨f, h1, h2, h3⟩ := hO.cont
  exact pe_cmpF hn ho (cmp_in_own hg.x hg.d h1 h2 (h3 false A H gid loc mm g n rm hg)) hm
/-- graph.nodes[a] -/
theorem ae_node_at (hO : GOps c dir C CN CE D) (rm : Rm A 6) (hg : GAt gid dir C CN loc mm g H) {o ea : Expr} {p1 p2 : Pos} {n : Int} {Q : AV → LM → AHeap → Prop} (ho : PE c A env m H o (.ref (loc (tX gid)))) (hn : ∀ H', Grows H H' → PE c A env m H' ea (.int n)) (hn' : ∀ H', PE c A env m H' ea (.int n)) (hk : n ∈ g.keys)
    (q : ∀ mm' H', GAt gid dir C CN loc mm' g H' → Frame gid H H' → Q (.ref (loc (tNd gid n))) m H') (hp : plainIdx ea = true := by rfl)
    (he : eval (.Attribute o "nodes" p1) env = (do let ov ← eval o env; standAt p1.atName; let r ← holding [ov] (getAttr ov "nodes" true); letTemporaryGo o ov r; pure r) := by rfl) : AE true c A env m H (.Subscript (.Attribute o "nodes" p1) ea p2) Q E := by
  obtain ⟨fN, cdN, hN, hCN, gV, hV⟩ := hO.nodes
  obtain ⟨f, h1, h2, h3, h4⟩ := hO.vget
  refine ae_sub (ae_nodes hN hCN gV hV hO.k (rm.less (by omega)) hg ho ?_ he)
  intro a d mm' H1 hg1 f1 hnd ha hd
  refine ⟨.int n, hn' H1, fun W s u x ok fo r1 r2 => ?_⟩
  refine sub_inst ok fo (.inr ⟨_, ha⟩) hd h1 h2 h3 r1 r2 ?_ hp
  refine CallOk.mono (h4 true A.in1 H1 gid loc mm' g a d n (rm.in1.less (by omega)) hg1 ha hd hk) ?_ fun _ _ z => z.elim
  rintro v H2 ⟨rfl, rfl⟩
  exact q mm' H2 hg1 f1
/-- graph[a][b] -/
theorem ae_edge_at (hO : GOps c dir C CN CE D) (rm : Rm A 6) (hg : GAt gid dir C CN loc mm g H) {o ea eb : Expr} {p1 p2 : Pos} {n b : Int} {Q : AV → LM → AHeap → Prop} (ho : PE c A env m H o (.ref (loc (tX gid)))) (hn : PE c A env m H ea (.int n)) (hb : ∀ H', PE c A env m H' eb (.int b)) (hk : b ∈ g.adj n)
    (q : ∀ mm' H', GAt gid dir C CN loc mm' g H' → Frame gid H H' → Q (.ref (loc (tEd gid (ek dir n b)))) m H') (hp : plainIdx ea = true := by rfl) (hp2 : plainIdx eb = true := by rfl) : AE true c A env m H (.Subscript (.Subscript o ea p1) eb p2) Q E := by
  obtain ⟨f, h1, h2, h3, h4⟩ := hO.get
  have hkn : n ∈ g.keys := (hg.wf.adjk hk).1
  refine ae_sub_dI (ae_sub (ae_pe ho ⟨.int n, hn, fun W s u x ok fo r1 r2 => ?_⟩)) hp2
  refine sub_inst ok fo (.inl hg.x) hg.d h1 h2 h3 r1 r2 ?_ hp
  refine CallOk.mono (h4 A.in1 H gid loc mm g n (rm.in1.less (by omega)) hg hkn) ?_ fun _ _ z => z.elim
  rintro v H2 ⟨rfl, mm', hg2, f2⟩
  exact ⟨_, _, _, b, _, rfl, hb H2, hg2.ad hkn, by rw [look_refs, if_pos hk], q mm' H2 hg2 f2⟩
end
end Nx
end
section
set_option autoImplicit false
namespace Nx
section
variable {c : Cx} {A : Around} {H : AHeap} {gid : Nat} {dir : Bool} {C CN CE D Cg : Addr} {loc : Loc} {mm : List (Str × AV)} {g : GC} {env : Env} {m : LM} {E : AV → LM → AHeap → Prop}
/-- (a, b) if is_directed else (min(a, b), max(a, b)) -/
theorem pe_pair (hG : LawG c CE D Cg) (hh : A.handled = none) {x y z : Str} {a b : Int} {p0 p1 p2 p3 p4 p5 p6 p7 p8 p9 q1 q2 q3 q4 : Pos} {k1 k2 : Nat} (hx : PE c A env m H (.Name x p1) (.int a)) (hy : PE c A env m H (.Name y p2) (.int b)) (hx1 : PE c A env m H (.Name x p5) (.int a)) (hy1 : PE c A env m H (.Name y p6) (.int b)) (hx2 : PE c A env m H (.Name x p8) (.int a)) (hy2 : PE c A env m H (.Name y p9) (.int b)) (hz : PE c A env m H (.Name z p0) (.bool dir))
    (hg1 : env.globals = mainGlobals := by rfl) (hb1 : env.builtins = builtinsNs := by rfl) (hk1 : env.scope.kind = .function := by rfl) (hl1 : env.kindOf "min" = some .globalImplicit := by rfl) (hl2 : env.kindOf "max" = some .globalImplicit := by rfl)
    (hp1 : (backTo q1 (starEach [.Name x p5, .Name y p6] env)).any (·.1) = false := by rfl) (hp2 : (backTo q2 (starEach [.Name x p8, .Name y p9] env)).any (·.1) = false := by rfl) :
    PE c A env m H (.IfExp (.Name z p0) (.Tuple [.Name x p1, .Name y p2] k1 p3) (.Tuple [.Call (.Name "min" p4) [.Name x p5, .Name y p6] [] q1, .Call (.Name "max" p7) [.Name x p8, .Name y p9] [] q2] k2 q3) q4) (.tup [.int (ek dir a b).1, .int (ek dir a b).2]) := by
  refine pe_if (pb_bool hz) ?_
  cases dir with
  | true => exact pe_tuple (pl_cons hx (pl_cons hy pl_nil)) (by simp)
  | false => exact pe_tuple (pl_cons (pe_call (pe_blt (hG.gb _ (by decide)) hG.bmi hg1 hb1 hk1 hl1) con_is keep_builtin (pl_cons hx1 (pl_cons hy1 pl_nil)) (cp_min hh) hp1) (pl_cons (pe_call (pe_blt (hG.gb _ (by decide)) hG.bma hg1 hb1 hk1 hl2) con_is keep_builtin (pl_cons hx2 (pl_cons hy2 pl_nil)) (cp_max hh) hp2) pl_nil)) (by simp)
/-- the law's names in _law_same -/
structure SmOk (m : LM) (x : Addr) (dir : Bool) (dn de : Addr) : Prop where
  g : m "graph" = some (.ref x)
  d : m "is_directed" = some (.bool dir)
  n : m "nodes" = some (.ref dn)
  e : m "edges" = some (.ref de)
abbrev sSmB : Stmt := pick (forBody (pick (fbody sSm) 1)) 4
theorem same_b {L f : Addr} {cdv : Value} (hO : GOps c dir C CN CE D) (hG : LawG c CE D Cg) (rm : Rm A 7) (hgr : 0 < gid ∧ gid < 50) {n : List (Int × List (Str × Int))} {e : List ((Int × Int) × List (Str × Int))} {w : List (Str × Int)} {dn de dw nb : Addr} {tn te tw : Tag} {ns : List Int} {a : Int} (h1 : Law5 tn) (h2 : Law5 te) (h3 : Law5 tw)
    (he : ∀ k, g.eg k = look e k) (hns : ∀ b, b ∈ ns ↔ (g.eg (ek dir a b)).isSome = true) (hm : SmOk m (loc (tX gid)) dir dn de) (hma : m "a" = some (.int a)) (hmn : m "near" = some (.ref nb)) (hg : GAt gid dir C CN loc mm g H) (hD : DAt dn de dw tn te tw n e w H) (hnb : H nb = some (⟨71, 0, []⟩, .list (ns.map AV.int)))
    {Q : AFl → LM → AHeap → Prop} (q : ∀ m' H' mm', GAt gid dir C CN loc mm' g H' → DAt dn de dw tn te tw n e w H' → FrJ 81 gid H H' → SmOk m' (loc (tX gid)) dir dn de → Q .next m' H') :
    A1 true c A (envOf "_law_same" (fscope sSm) L f cdv) m H sSmB Q E := by
  have hu : A.units + 64 < cLine := by have := rm.u; omega
  have hx0 : gid ≠ xo := by show gid ≠ 0; omega
  obtain ⟨fE, hEm, hEk, hEc⟩ := hO.hasE
  refine a1_range 80 (n := 6) (hG.gb _ (by decide)) hG.br rm.h (by decide) (fun i m' H' => ∃ mm', GAt gid dir C CN loc mm' g H' ∧ DAt dn de dw tn te tw n e w H' ∧ FrJ 81 gid H H' ∧ H' nb = some (⟨71, 0, []⟩, .list (ns.map AV.int)) ∧ SmOk m' (loc (tX gid)) dir dn de ∧ m' "a" = some (.int a) ∧ m' "near" = some (.ref nb))
    (ae_pe (v := .int 6) pe_int ⟨rfl, mm, hg, hD, FrJ.refl _ _ _, hnb, hm, hma, hmn⟩) ?_ ?_ ?_
  · rintro i m' H1 H2 ⟨mm', z1, z2, z3, z4, z5⟩ f
    exact ⟨mm', z1.frame f (by omega) (by show gid + 100 ≠ 80; omega) hx0, z2.fr f (by decide) h1 h2 h3, z3.trans (f.r60 (by decide) (by decide)), f _ _ _ z4 (by decide) (by decide), z5⟩
  · rintro i m1 H1 hi ⟨mm1, hg1, hD1, f1, hnb1, hm1, hma1, hmn1⟩
    have hm1' : SmOk (setm m1 "b" (.int i)) (loc (tX gid)) dir dn de := ⟨hm1.g, hm1.d, hm1.n, hm1.e⟩
    have hm2 : ∀ v, SmOk (setm (setm m1 "b" (.int i)) "pair" v) (loc (tX gid)) dir dn de := fun v => ⟨hm1.g, hm1.d, hm1.n, hm1.e⟩
    have hne : ∀ b : Bool, (b != b) = false := fun b => by cases b <;> rfl
    have hue : A.units + 1 < cLine := by omega
    refine as_cons (a1_assign (v := .tup [.int (ek dir a i).1, .int (ek dir a i).2]) (pe_pair hG rm.h (pe_name (by exact hma1)) (pe_name rfl) (pe_name (by exact hma1)) (pe_name rfl) (pe_name (by exact hma1)) (pe_name rfl) (pe_name (by exact hm1.d))) ?_)
    -- graph.has_edge(a, b) != (pair in edges) or (b in near) != (pair in edges)
    refine as_cons (a1_ifE (ab_bool (abs_or (ab_cmp (ae_meth (names := []) (pe_name (by exact hm1.g)) hg1.x hg1.d hEm (hg1.att.other _ (by decide)) hEk (al_cons (ae_pe (v := .int a) (pe_name (by exact hma1)) (al_cons (ae_pe (v := .int i) (pe_name rfl) (al_nil ⟨[], kw_nil, rfl, ?_⟩))))))))))
    refine CallOk.mono (hEc true A H1 gid loc mm1 g a i (rm.less (by omega)) hg1 hx0) ?_ fun _ _ z => z.elim
    rintro r H2 ⟨rfl, k2⟩
    have hg2 := hg1.keeps k2 hx0
    have hD2 := hD1.f60 (k := 80) (gid := gid) k2.f60 hgr.2 h1 h2 h3
    have hnb2 := k2 _ _ _ hnb1 (by decide)
    have f2 : FrJ 81 gid H H2 := f1.trans k2.f60
    have it2 : ∀ b o, H1 b = some (⟨80, 0, []⟩, o) → H2 b = some (⟨80, 0, []⟩, o) := fun b o hb => k2 _ _ _ hb (by decide)
    have hsome : ∀ k, (look (fdR e) k).isSome = (g.eg k).isSome := fun k => by rw [look_fdR, he]; cases look e k <;> rfl
    have inE : ∀ m' b, (g.eg (ek dir a i)).isSome = b → CmpF c A (envOf "_law_same" (fscope sSm) L f cdv) m' H2 .In (.tup [.int (ek dir a i).1, .int (ek dir a i).2]) (.ref de) b := fun m' b hb => by
      have := (cmp_in_dP (c := c) (A := A) hue (k := ek dir a i) hD2.e).f (env := envOf "_law_same" (fscope sSm) L f cdv) (m := m')
      rw [hsome, hb] at this; exact this
    refine ae_pe (v := .bool (g.eg (ek dir a i)).isSome) (pe_cmpF (pe_name rfl) (pe_name (by exact hm1.e)) (inE _ _ rfl)) ⟨false, by rw [← hne (g.eg (ek dir a i)).isSome]; exact (cmp_ne_bool hu).f, ?_⟩
    refine abs_or (ab_pb (b := false) (pb_cmp (a := .bool (g.eg (ek dir a i)).isSome) (b := .bool (g.eg (ek dir a i)).isSome) (pe_cmpF (pe_name rfl) (pe_name (by exact hmn1)) (by
        have e1 : (g.eg (ek dir a i)).isSome = decide ((i : Int) ∈ ns) := by
          rw [Bool.eq_iff_iff, decide_eq_true_iff]; exact (hns i).symm
        rw [e1]; exact (cmp_in_list hnb2).f)) (pe_cmpF (pe_name rfl) (pe_name (by exact hm1.e)) (inE _ _ rfl)) (by rw [← hne (g.eg (ek dir a i)).isSome]; exact cmp_ne_bool hu)) (abs_or_nil (as_nil ?_)))
    -- pair in edges and graph[a][b] != edges[pair]
    have fin : ∀ H3 mm3, GAt gid dir C CN loc mm3 g H3 → Frame gid H2 H3 → (∃ mm', GAt gid dir C CN loc mm' g H3 ∧ DAt dn de dw tn te tw n e w H3 ∧ FrJ 81 gid H H3 ∧ H3 nb = some (⟨71, 0, []⟩, .list (ns.map AV.int)) ∧ SmOk (setm (setm m1 "b" (.int i)) "pair" (.tup [.int (ek dir a i).1, .int (ek dir a i).2])) (loc (tX gid)) dir dn de ∧ setm (setm m1 "b" (.int i)) "pair" (.tup [.int (ek dir a i).1, .int (ek dir a i).2]) "a" = some (.int a) ∧ setm (setm m1 "b" (.int i)) "pair" (.tup [.int (ek dir a i).1, .int (ek dir a i).2]) "near" = some (.ref nb)) ∧ ∀ b o, H1 b = some (⟨80, 0, []⟩, o) → H3 b = some (⟨80, 0, []⟩, o) := fun H3 mm3 hg3 f3 =>
      ⟨⟨mm3, hg3, hD2.f60 (k := 80) f3.f60 hgr.2 h1 h2 h3, f2.trans f3.f60, f3 _ _ _ hnb2 (by simp; omega) (by decide), hm2 _, hma1, hmn1⟩, fun b o hb => f3 _ _ _ (it2 b o hb) (by simp; omega) (by decide)⟩
    cases hk : g.eg (ek dir a i) with
    | none =>
      refine as_cons (a1_ifE (ab_bool (abs_and (ab_pb (b := false) (pb_cmpF (pe_name rfl) (pe_name (by exact hm1.e)) (inE _ _ (by rw [hk]; rfl))) (as_nil (as_nil ?_))))))
      exact fin H2 mm1 hg2 (Frame.refl _ _)
    | some x =>
      have hkl : look e (ek dir a i) = some x := by rw [← he]; exact hk
      have hadj : (i : Int) ∈ g.adj a := (hg2.wf.adjI a i).mpr (by rw [hk]; rfl)
      refine as_cons (a1_ifE (ab_bool (abs_and (ab_pb (b := true) (pb_cmpF (pe_name rfl) (pe_name (by exact hm1.e)) (inE _ _ (by rw [hk]; rfl))) (abs_and (ab_cmp (ae_edge_at hO (rm.less (by omega)) hg2 (pe_name (by exact hm1.g)) (pe_name (by exact hma1)) (fun _ => pe_name rfl) hadj ?_)))))))
      intro mm3 H3 hg3 f3
      have hD3 := hD2.f60 (k := 80) f3.f60 hgr.2 h1 h2 h3
      have hlk : look (fdR e) (ek dir a i) = some (.fd x) := by rw [look_fdR, hkl]; rfl
      refine ae_pe (v := .fd x) (pe_sub_dP hue (pe_name (by exact hm1.e)) (pe_name rfl) hD3.e hlk) ⟨false, (cmp_ne_fd (hg2.wf.smE _ _ hk).1 hue (hg3.ed hk)).f, as_nil (as_nil (fin H3 mm3 hg3 f3))⟩
  · rintro m1 H1 ⟨mm1, hg1, hD1, f1, hnb1, hm1, hma1, hmn1⟩
    exact q m1 H1 mm1 hg1 hD1 f1 hm1
abbrev sSmA : List Stmt := forBody (pick (fbody sSm) 1)
theorem same_fin {L f : Addr} {cdv : Value} (hO : GOps c dir C CN CE D) (hG : LawG c CE D Cg) (rm : Rm A 7) (hgr : 0 < gid ∧ gid < 50) {n : List (Int × List (Str × Int))} {e : List ((Int × Int) × List (Str × Int))} {w : List (Str × Int)} {dn de dw nb : Addr} {tn te tw : Tag} {ns : List Int} {a r : Int} (h1 : Law5 tn) (h2 : Law5 te) (h3 : Law5 tw)
    (he : ∀ k, g.eg k = look e k) (hns : ∀ b, b ∈ ns ↔ (g.eg (ek dir a b)).isSome = true) (hm : SmOk m (loc (tX gid)) dir dn de) (hma : m "a" = some (.int a)) (hmn : m "near" = some (.ref nb)) (hmr : m "refused" = some (.int r)) (hr : r = if (look n a).isSome then 0 else 1) (hg : GAt gid dir C CN loc mm g H) (hD : DAt dn de dw tn te tw n e w H) (hnb : H nb = some (⟨71, 0, []⟩, .list (ns.map AV.int)))
    {Q : AFl → LM → AHeap → Prop} (q : ∀ m' H' mm', GAt gid dir C CN loc mm' g H' → DAt dn de dw tn te tw n e w H' → FrJ 81 gid H H' → SmOk m' (loc (tX gid)) dir dn de → Q .next m' H') :
    AS true c A (envOf "_law_same" (fscope sSm) L f cdv) m H (pick sSmA 3 :: sSmB :: []) Q E := by
  have hs : (look (fdR n) a).isSome = (look n a).isSome := by rw [look_fdR]; cases look n a <;> rfl
  refine as_cons (a1_if (b := false) (pb_cmp (a := .int r) (b := .int r) (pe_name hmr) (pe_if (b := (look n a).isSome) (pb_cmp (pe_name hma) (pe_name hm.n) (by rw [← hs]; exact cmp_in_dI hD.n)) ?_) (by have := cmp_ne_int (c := c) (A := A) (H := H) (a := r) (b := r); rw [show (r != r) = false from by simp] at this; exact this)) (as_nil ?_))
  · rw [hr]
    cases (look n a).isSome
    · exact pe_int
    · exact pe_int
  · exact as_cons (same_b hO hG rm hgr h1 h2 h3 he hns hm hma hmn hg hD hnb fun m' H' mm' z1 z2 z3 z4 => as_nil (q m' H' mm' z1 z2 z3 z4))
theorem same_ok {f : Addr} {cdv : Value} (hf : FnIs c f "_law_same" (fpars sSm) (fbody sSm) (fscope sSm) .none .none cdv) (hO : GOps c dir C CN CE D) (hG : LawG c CE D Cg) (rm : Rm A 8) (hgr : 0 < gid ∧ gid < 50) (hg : GAt gid dir C CN loc mm g H)
    {n : List (Int × List (Str × Int))} {e : List ((Int × Int) × List (Str × Int))} {w : List (Str × Int)} (hR : Rel g n e w) {dn de dw : Addr} {tn te tw : Tag} (hD : DAt dn de dw tn te tw n e w H) (h1 : Law5 tn) (h2 : Law5 te) (h3 : Law5 tw) :
    CallOk true c A H (.ref f) [.ref (loc (tX gid)), .bool dir, .ref dn, .ref de, .ref dw] [] (fun r H' => r = .bool true ∧ ∃ mm', GAt gid dir C CN loc mm' g H' ∧ FrJ 82 gid H H') (fun _ _ => False) := by
  refine call_fn (P := fun ab H' => ab = ([("graph", .ref (loc (tX gid))), ("is_directed", .bool dir), ("nodes", .ref dn), ("edges", .ref de), ("whole", .ref dw)] : List (Str × AV)) ∧ H' = H) hf rfl rm.room ?_ ?_ ?_
  · intro name doc pm an ct W s vs kvs ok h1 h2
    cases h2
    cases h1 with | cons r1 h1 => cases h1 with | cons r2 h1 => cases h1 with | cons r3 h1 => cases h1 with | cons r4 h1 => cases h1 with | cons r5 h1 => cases h1 with | nil =>
    rename_i v1 v2 v3 v4 v5
    exact BindsTo.of_eq (binds := [("graph", v1), ("is_directed", v2), ("nodes", v3), ("edges", v4), ("whole", v5)]) rfl _ _ _ _ ⟨W, H, _, Post.refl ok, .cons ⟨rfl, r1⟩ (.cons ⟨rfl, r2⟩ (.cons ⟨rfl, r3⟩ (.cons ⟨rfl, r4⟩ (.cons ⟨rfl, r5⟩ .nil)))), rfl, rfl⟩
  · rintro ab H' ⟨rfl, rfl⟩
    rfl
  · rintro L ab H' ⟨rfl, rfl⟩ hL
    have rm' := rm.deeper (envOf "_law_same" (fscope sSm) L f cdv)
    obtain ⟨hn, he, rfl⟩ := hR
    have hu : (A.deeper (envOf "_law_same" (fscope sSm) L f cdv)).units + 64 < cLine := by have := rm'.u; omega
    have hx0 : gid ≠ xo := by show gid ≠ 0; omega
    have hkn : n.map (·.1) = g.keys := by rw [← hn]; rfl
    -- the first test
    refine as_cons (a1_ifE (ab_bool (abs_or (ab_pb (b := false) (pb_cmp (pe_own hO.k (pe_name rfl) hg.x hg.d hg.att.g) (pe_name rfl) (cmp_ne_dS hg.wf.smW.1 (by omega) hg.w hD.w)) ?_))))
    have hisi : CallP c (A.deeper (envOf "_law_same" (fscope sSm) L f cdv)) H' (.builtin "isinstance") [.ref (loc (tX gid)), .ref D] (.bool dir) := by
      have := hO.isi
      cases dir with
      | true => obtain rfl : C = D := this; exact cp_isi_yes hg.x hg.d
      | false => exact cp_isi_no this hg.x hg.d
    refine abs_or (ab_pb (b := false) (pb_cmp (pe_call (pe_blt (hG.gb _ (by decide)) hG.bi) con_is keep_builtin (pl_cons (pe_name rfl) (pl_cons (pe_glob hG.gD) pl_nil)) hisi) (pe_name rfl) (by have := cmp_ne_bool (c := c) (H := H') (a := dir) (b := dir) hu; rw [show (dir != dir) = false from by cases dir <;> rfl] at this; exact this)) ?_)
    refine abs_or (ab_cmp (ae_sorted_nodes hO hG (rm'.less (by omega)) hg (pe_name rfl) fun b1 ns1 mm1 H1 hg1 f1 hb1 hp1 hs1 => ?_))
    have hD1 := hD.f60 f1 hgr.2 h1 h2 h3
    refine ae_callW (pe_blt (hG.gb _ (by decide)) hG.bs) con_is keep_builtin (al_cons (ae_pe (pe_name rfl) (al_nil (CallW.mono (cw_sorted_dI ⟨70, 2, []⟩ rm'.h hD1.n (by rw [fdR_length, ← List.length_map (·.1), hkn]; have := hg.wf.count; omega)) ?_ fun _ _ z => z))))
    rintro r H2 ⟨b2, ns2, hb2, rfl, hp2, hs2, rfl⟩
    have hk2 : (fdR n).map (·.1) = g.keys := by unfold fdR; rw [List.map_map]; exact hkn
    rw [hk2] at hp2
    obtain rfl := sorted_same hp1 hp2 hs1 hs2
    have f2 : FrJ 80 gid H1 (upd H1 b2 (⟨70, 2, []⟩, .list (ns1.map AV.int))) := (Frame.new (gid := gid) hb2).f60
    have hg2 : GAt gid dir C CN loc mm1 g (upd H1 b2 (⟨70, 2, []⟩, .list (ns1.map AV.int))) := ⟨fun t o ht => upd_new hb2 (hg1.at_ t o ht), hg1.att, hg1.wf, hg1.nv_keep (Frame.new hb2) (Same.refl _ _)⟩
    refine ⟨false, (by have := cmp_ne_list (c := c) (A := A.deeper (envOf "_law_same" (fscope sSm) L f cdv)) (ns := ns1) (ms := ns1) hu (upd_new hb2 hb1) (upd_same (H := H1) (a := b2) (x := (⟨70, 2, []⟩, .list (ns1.map AV.int)))); rw [show (!decide (ns1 = ns1)) = false from by simp] at this; exact this.f), abs_or_nil (as_nil ?_)⟩
    have hD2 := hD1.f60 f2 hgr.2 h1 h2 h3
    have f02 := f1.trans f2
    generalize upd H1 b2 (⟨70, 2, []⟩, .list (ns1.map AV.int)) = H2 at hg2 hD2 f02 ⊢
    have f82 : FrJ 82 gid H' H2 := f02.mono (by decide)
    refine as_cons (a1_range 81 (n := 6) (hG.gb _ (by decide)) hG.br rm'.h (by decide) (fun i m' H3 => ∃ mm', GAt gid dir C CN loc mm' g H3 ∧ DAt dn de dw tn te tw n e g.whole H3 ∧ FrJ 82 gid H' H3 ∧ SmOk m' (loc (tX gid)) dir dn de)
      (ae_pe (v := .int 6) pe_int ⟨rfl, mm1, hg2, hD2, f82, ⟨rfl, rfl, rfl, rfl⟩⟩) ?_ ?_ ?_)
    · rintro i m' H3 H4 ⟨mm', z1, z2, z3, z4⟩ f
      exact ⟨mm', z1.frame f (by omega) (by show gid + 100 ≠ 81; omega) hx0, z2.fr f (by decide) h1 h2 h3, z3.trans (f.r60 (by decide) (by decide)), z4⟩
    · rintro i m1 H3 hi ⟨mm3, hg3, hD3, f3, hm1⟩
      have hm2 : SmOk (setm m1 "a" (.int i)) (loc (tX gid)) dir dn de := ⟨hm1.g, hm1.d, hm1.n, hm1.e⟩
      have hma2 : setm m1 "a" (.int i) "a" = some (.int i) := rfl
      generalize setm m1 "a" (.int i) = m2 at hm2 hma2 ⊢
      have hue : (A.deeper (envOf "_law_same" (fscope sSm) L f cdv)).units + 1 < cLine := by omega
      have hsome : (look (fdR n) (i : Int)).isSome = decide ((i : Int) ∈ g.keys) := by
        rw [look_fdR, Option.isSome_map, ← hkn, Bool.eq_iff_iff, decide_eq_true_iff, look_isSome]
      have inN : ∀ m' H4, DAt dn de dw tn te tw n e g.whole H4 → CmpF c (A.deeper (envOf "_law_same" (fscope sSm) L f cdv)) (envOf "_law_same" (fscope sSm) L f cdv) m' H4 .In (.int i) (.ref dn) (decide ((i : Int) ∈ g.keys)) := fun m' H4 hD4 => by
        have := (cmp_in_dI (c := c) (A := A.deeper (envOf "_law_same" (fscope sSm) L f cdv)) (k := (i : Int)) hD4.n).f (env := envOf "_law_same" (fscope sSm) L f cdv) (m := m')
        rw [hsome] at this; exact this
      have hne : ∀ b : Bool, (b != b) = false := fun b => by cases b <;> rfl
      refine as_cons (a1_ifE (ab_bool (abs_or (ab_pb (b := false) (pb_cmp (a := .bool (decide ((i : Int) ∈ g.keys))) (b := .bool (decide ((i : Int) ∈ g.keys))) (pe_in_graph hO (rm'.less (by omega)) hg3 (pe_name hma2) (pe_name hm2.g)) (pe_cmpF (pe_name hma2) (pe_name hm2.n) (inN _ _ hD3)) (by rw [← hne (decide ((i : Int) ∈ g.keys))]; exact cmp_ne_bool hu)) ?_))))
      have it3 : ∀ {H4 : AHeap}, FrJ 81 gid H3 H4 → ∀ b o, H3 b = some (⟨81, 0, []⟩, o) → H4 b = some (⟨81, 0, []⟩, o) := fun f b o hb => f _ _ _ hb (by show 81 ≠ gid; omega) (by decide) (by decide)
      have hki : ((look n (i : Int)).isSome = true) ↔ (i : Int) ∈ g.keys := by rw [look_isSome, hkn]
      by_cases hk : (i : Int) ∈ g.keys
      · have hks := hki.mpr hk
        obtain ⟨x, hx⟩ := Option.isSome_iff_exists.mp hks
        refine abs_or (ab_bool (abs_and (ab_pb (b := true) (pb_cmpF (pe_name hma2) (pe_name hm2.n) (by have := inN m2 _ hD3; rw [decide_eq_true hk] at this; exact this)) (abs_and (ab_cmp (ae_node_at hO (rm'.less (by omega)) hg3 (pe_name hm2.g) (fun _ _ => pe_name hma2) (fun _ => pe_name hma2) hk fun mm4 H4 hg4 f4 => ?_))))))
        have hD4 := hD3.f60 (k := 80) f4.f60 hgr.2 h1 h2 h3
        have hlk : look (fdR n) (i : Int) = some (.fd x) := by rw [look_fdR, hx]; rfl
        refine ae_pe (v := .fd x) (pe_sub_dI (pe_name hm2.n) (pe_name hma2) hD4.n hlk) ⟨false, (cmp_ne_fd (hg3.wf.smN _ _ (by rw [hn]; exact hx)).1 hue (hg4.nd (by rw [hn]; exact hx))).f, abs_or_nil (as_nil ?_)⟩
        refine as_cons (a1_assign (v := .int 0) pe_int ?_)
        refine as_cons (a1_tryN (as_cons (a1_assignE (ae_sorted_nbr (Cg := Cg) hO hG (rm'.less (by omega)) hg4 hx0 (pe_name hm2.g) (pe_name hma2) (by omega) (by omega) (fun _ nb ns H5 hg5 f5 hnb hns => ?_) fun z => absurd hk z))))
        refine as_nil (as_nil ?_)
        have hD5 := hD4.f60 f5 hgr.2 h1 h2 h3
        have f45 : FrJ 81 gid H3 H5 := (f4.f60.trans f5).mono (by decide)
        refine same_fin (r := 0) (a := i) hO hG (rm'.less (by omega)) hgr h1 h2 h3 he (fun b => ?_) (by exact ⟨hm2.g, hm2.d, hm2.n, hm2.e⟩) (by exact hma2) rfl rfl (by rw [if_pos hks]) hg5 hD5 hnb fun m6 H6 mm6 hg6 hD6 f6 hm6 => ⟨⟨mm6, hg6, hD6, f3.trans ((f45.trans f6).mono (by decide)), hm6⟩, it3 (f45.trans f6)⟩
        rw [hns.mem_iff]; exact hg3.wf.adjI i b
      · have hks : (look n (i : Int)).isSome = false := by
          cases hh : (look n (i : Int)).isSome with
          | false => rfl
          | true => exact absurd (hki.mp hh) hk
        refine abs_or (ab_bool (abs_and (ab_pb (b := false) (pb_cmpF (pe_name hma2) (pe_name hm2.n) (by have := inN m2 _ hD3; rw [decide_eq_false hk] at this; exact this)) (abs_or_nil (as_nil ?_)))))
        refine as_cons (a1_assign (v := .int 0) pe_int ?_)
        refine as_cons (a1_try (as_cons (a1_assignE (ae_sorted_nbr (Cg := Cg) hO hG (rm'.less (by omega)) hg3 hx0 (pe_name hm2.g) (pe_name hma2) (by omega) (by omega) (fun z => absurd z hk) fun _ x k2 vs H5 k5 x5 hk2 hvs => ?_))))
        refine ⟨x, _, _, rfl, .inr x5, fun H6 k6 x6 => ?_⟩
        refine ah_cons (pe_glob hG.gE) con_is x6 hO.xE fun H7 k7 x7 => ?_
        have k37 := (k5.trans k6).trans k7
        have hk27 := k7 _ _ _ (k6 _ _ _ hk2 (by decide)) (by decide)
        obtain ⟨tx, us, T, tT, ts, hx7, htx, _, hu2, _⟩ := id x7
        have hne : k2 ≠ x := fun q => by rw [q, hx7] at hk27; cases hk27
        refine as_cons (a1_assign_swap (names := ["refused", "near"]) (by intro y hy; rcases List.mem_cons.mp hy with rfl | hy; rfl; rcases List.mem_cons.mp hy with rfl | hy; rfl; cases hy) (ae_tuple (al_cons (ae_pe (v := .int 1) pe_int (al_cons (ae_list ⟨71, 0, []⟩ (al_nil ⟨by simp, fun nb hnb => al_nil ⟨by simp, ?_⟩⟩)))))))
        have f8 : Frame gid H7 (upd H7 nb (⟨71, 0, []⟩, .list [])) := Frame.new hnb
        refine ⟨[.int 1, .ref nb], unp_tup2 (k := x) (k2 := k2) rfl (upd_of (fun q => by rw [q, hnb] at hx7; cases hx7) hx7) hu2 (upd_of (fun q => by rw [q, hnb] at hk27; cases hk27) hk27) hvs hne, rfl, as_nil ?_⟩
        have hg7 := hg3.keeps k37 hx0
        have hg8 : GAt gid dir C CN loc mm3 g (upd H7 nb (⟨71, 0, []⟩, .list [])) := ⟨fun t o ht => upd_new hnb (hg7.at_ t o ht), hg7.att, hg7.wf, hg7.nv_keep f8 (Same.refl _ _)⟩
        have hD7 := hD3.f60 (k := 80) (gid := gid) k37.f60 hgr.2 h1 h2 h3
        have hD8 := hD7.f60 (k := 80) f8.f60 hgr.2 h1 h2 h3
        have f38 : FrJ 81 gid H3 (upd H7 nb (⟨71, 0, []⟩, .list [])) := k37.f60.trans f8.f60
        refine same_fin (r := 1) (a := i) (ns := []) hO hG (rm'.less (by omega)) hgr h1 h2 h3 he (fun b => ?_) (by exact ⟨hm2.g, hm2.d, hm2.n, hm2.e⟩) (by exact hma2) rfl rfl (by rw [hks]; rfl) hg8 hD8 upd_same fun m9 H9 mm9 hg9 hD9 f9 hm9 => ⟨⟨mm9, hg9, hD9, f3.trans ((f38.trans f9).mono (by decide)), hm9⟩, it3 (f38.trans f9)⟩
        refine ⟨fun z => (nomatch z), fun z => ?_⟩
        exact absurd (hg3.wf.adjk ((hg3.wf.adjI i b).mpr z)).1 hk
    · rintro m1 H3 ⟨mm3, hg3, hD3, f3, hm1⟩
      exact as_cons (a1_return pe_bool ⟨rfl, mm3, hg3, f3⟩)
end
end Nx
end
section
set_option autoImplicit false
namespace Nx
section
variable {κ : Type} [DecidableEq κ] {α : Type}
theorem put_id {l : List (κ × α)} {k : κ} {a : α} (h : look l k = some a) : put l k a = l := by
  induction l with
  | nil => cases h
  | cons p r ih =>
    unfold look at h
    unfold put
    by_cases e : p.1 = k
    · rw [if_pos e] at h ⊢
      cases h
      rw [← e]
    · rw [if_neg e] at h ⊢
      rw [ih h]
theorem put_put (l : List (κ × α)) (k : κ) (a b : α) : put (put l k a) k b = put l k b := by
  induction l with
  | nil => unfold put; unfold put; simp [put]
  | cons p r ih =>
    by_cases e : p.1 = k
    · simp [put, e]
    · simp [put, e, ih]
end
theorem GC.node_nodes (g : GC) (a : Int) : (g.node a).nodes = put g.nodes a ((look g.nodes a).getD []) := by
  cases q : look g.nodes a with
  | none => rw [GC.node_new q, put_new _ q]; rfl
  | some o => rw [GC.node_old (by rw [q]; rfl)]; exact (put_id q).symm
theorem GC.attr_nodes (g : GC) (a : Int) (m : List (Str × Int)) : ((g.node a).attr a m).nodes = put g.nodes a (mergeA ((look g.nodes a).getD []) m) := by
  show put (g.node a).nodes a (mergeA ((look (g.node a).nodes a).getD []) m) = _
  rw [GC.node_nodes, look_put_same, put_put]; rfl
theorem GC.node_eg (g : GC) (a : Int) : (g.node a).eg = g.eg ∧ (g.node a).whole = g.whole := by
  unfold GC.node
  split <;> exact ⟨rfl, rfl⟩
section
variable {g : GC} {n : List (Int × List (Str × Int))} {e : List ((Int × Int) × List (Str × Int))} {w : List (Str × Int)} {a b more : Int} {nm : Str} {dir : Bool}
theorem Rel.d0 (r : Rel g n e w) : Rel (g.rows [] [(a, some [(nm, more)])]) (put n a (put ((look n a).getD []) nm more)) e w := by
  refine ⟨?_, ?_, ?_⟩
  · show ((g.node a).attr a (mergeA [] [(nm, more)])).nodes = _
    rw [GC.attr_nodes, r.n]; rfl
  · intro k
    show ((g.node a).attr a _).eg k = _
    show (g.node a).eg k = _
    rw [(GC.node_eg g a).1]; exact r.e k
  · show (g.node a).whole = w
    rw [(GC.node_eg g a).2]; exact r.w
theorem Rel.d1 (r : Rel g n e w) (hn : nm ≠ ("y" : Str)) : Rel (g.rows [("y", 7)] [(a, none), (b, some [(nm, more)])]) (put (put (put n a (put ((look n a).getD []) "y" 7)) b (put ((look (put n a (put ((look n a).getD []) "y" 7)) b).getD []) "y" 7)) b
    (put ((look (put (put n a (put ((look n a).getD []) "y" 7)) b (put ((look (put n a (put ((look n a).getD []) "y" 7)) b).getD []) "y" 7)) b).getD []) nm more)) e w := by
  have h1 : ((g.node a).attr a [("y", 7)]).nodes = put n a (put ((look n a).getD []) "y" 7) := by rw [GC.attr_nodes, r.n]; rfl
  refine ⟨?_, ?_, ?_⟩
  · show ((((g.node a).attr a [("y", 7)]).node b).attr b (mergeA [("y", 7)] [(nm, more)])).nodes = _
    rw [GC.attr_nodes, h1, look_put_same, put_put]
    have : mergeA ([("y", 7)] : List (Str × Int)) [(nm, more)] = ([("y", 7), (nm, more)] : List (Str × Int)) := by
      show put ([("y", 7)] : List (Str × Int)) nm more = _
      unfold put
      rw [if_neg (Ne.symm hn)]
      rfl
    rw [this]
    rfl
  · intro k
    show (((g.node a).attr a _).node b).eg k = _
    rw [(GC.node_eg _ b).1]
    show (g.node a).eg k = _
    rw [(GC.node_eg g a).1]; exact r.e k
  · show (((g.node a).attr a _).node b).whole = w
    rw [(GC.node_eg _ b).2]
    show (g.node a).whole = w
    rw [(GC.node_eg g a).2]; exact r.w
theorem Rel.d2 (r : Rel g n e w) (w' : List (Str × Int)) : Rel { g with whole := w' } n e w' := ⟨r.n, r.e, rfl⟩
theorem Rel.d3 (r : Rel g n e w) : Rel (((g.node a).node b).edge dir a b [(nm, more)]) (put (put n a ((look n a).getD [])) b ((look (put n a ((look n a).getD [])) b).getD [])) (put e (ek dir a b) (put ((look e (ek dir a b)).getD []) nm more)) w := by
  have hn : ((g.node a).node b).nodes = put (put n a ((look n a).getD [])) b ((look (put n a ((look n a).getD [])) b).getD []) := by rw [GC.node_nodes, GC.node_nodes, r.n]
  have he : ((g.node a).node b).eg = g.eg := by rw [(GC.node_eg _ b).1, (GC.node_eg g a).1]
  refine ⟨?_, ?_, ?_⟩
  · rw [GC.edge_keys.2.1]; exact hn
  · intro k
    rw [GC.edge_eg, he, r.e, r.e]
    by_cases q : k = ek dir a b
    · rw [if_pos q, q, look_put_same]; rfl
    · rw [if_neg q, look_put_ne _ _ q]
  · rw [GC.edge_keys.2.2, (GC.node_eg _ b).2, (GC.node_eg g a).2]; exact r.w
theorem Rel.en (r : Rel g n e w) (h : Wf dir g) (hd : (e.map (·.1)).Nodup) : e.length ≤ 25 := by
  rw [← List.length_map (·.1)]
  have : ∀ x ∈ e.map (·.1), x ∈ (List.range 5).flatMap fun (i : Nat) => (List.range 5).map fun (j : Nat) => ((i : Int), (j : Int)) := by
    intro x hx
    have h1 : (look e x).isSome = true := look_isSome.mpr hx
    rw [← r.e] at h1
    obtain ⟨h2, h3⟩ := h.egk x h1
    obtain ⟨a1, a2⟩ := h.rng _ h2
    obtain ⟨b1, b2⟩ := h.rng _ h3
    rw [List.mem_flatMap]
    refine ⟨x.1.toNat, by rw [List.mem_range]; omega, ?_⟩
    rw [List.mem_map]
    refine ⟨x.2.toNat, by rw [List.mem_range]; omega, ?_⟩
    rw [Int.toNat_of_nonneg a1, Int.toNat_of_nonneg b1]
  exact Nat.le_trans (length_le_of_sub hd this) (by decide)
theorem Rel.nn (r : Rel g n e w) (h : Wf dir g) : n.length ≤ 5 := by
  have := h.count
  unfold GC.keys at this
  rw [r.n, List.length_map] at this
  exact this
end
section
variable {nf : Bool} {c : Cx} {A : Around} {env : Env} {m : LM} {H : AHeap} {E : AV → LM → AHeap → Prop} {W : WM} {s : Shared}
/-- for x in (.., ..): .. -/
theorem a1_fortup (rid : Nat) {x : Str} {p1 p4 : Pos} {e : Expr} {vs : List AV} {body : List Stmt} {Q : AFl → LM → AHeap → Prop} (hh : A.handled = none) (Inv : Nat → LM → AHeap → Prop)
    (he : PE c A env m H e (.tup vs)) (h0 : Inv 0 m H)
    (hst : ∀ i m H H', Inv i m H → Frame rid H H' → Inv i m H')
    (turn : ∀ i v m1 H1, vs[i]? = some v → Inv i m1 H1 → AS nf c A env (setm m1 x v) H1 body (fun fl m' H' => match fl with
      | .next => Inv (i + 1) m' H' ∧ ∀ b o, H1 b = some (⟨rid, 0, []⟩, o) → H' b = some (⟨rid, 0, []⟩, o)
      | .cont => Inv (i + 1) m' H' ∧ ∀ b o, H1 b = some (⟨rid, 0, []⟩, o) → H' b = some (⟨rid, 0, []⟩, o)
      | .brk => False
      | .ret a => Q (.ret a) m' H') (fun _ _ _ => False))
    (fin : ∀ m1 H1, Inv vs.length m1 H1 → Q .next m1 H1)
    (hl : env.kindOf x = some .local := by rfl) (hk : env.scope.kind = .function := by rfl)
    (hs : ∀ x, foldedSetIterable e env x = pure x := by intro _; rfl) :
    A1 nf c A env m H (.For (.Name x p1) e body [] p4) Q E := by
  refine a1_forK (ae_pe he ?_) hs
  intro W s u ok ru
  refine wpN_mono (iter_tup (⟨rid, 0, []⟩) W s u ok ru) ?_ fun _ _ z => z
  rintro o s' ⟨W', H2, it, rfl, p, hit, rfl⟩
  refine ⟨W', _, it, rfl, p, fun k m1 H3 => ∃ i : Nat, k + i = vs.length ∧ Inv i m1 H3 ∧ H3 it = some (⟨rid, 0, []⟩, tupIt (.tup vs) i), ⟨vs.length, 0, rfl, hst _ _ _ _ h0 (Frame.new hit), upd_same⟩, ?_⟩
  rintro k m1 H3 ⟨i, hk', hI, h3⟩
  rcases Nat.lt_or_ge i vs.length with hi | hi
  · obtain ⟨v, hv⟩ : ∃ v, vs[i]? = some v := ⟨vs[i], by simp [hi]⟩
    refine (next_tup_item h3 hv).ok ?_
    have f3 : Frame rid H3 (upd H3 it (⟨rid, 0, []⟩, tupIt (.tup vs) (i + 1))) := Frame.upd fun t o q => by rw [h3] at q; cases q; rfl
    refine asg_name ?_ hl hk
    refine (turn i v m1 _ hv (hst _ _ _ _ hI f3)).mono (fun fl m' H' z => ?_) fun _ _ _ z => z
    cases fl with
    | next => exact ⟨k - 1, by omega, i + 1, by omega, z.1, z.2 _ _ upd_same⟩
    | cont => exact ⟨k - 1, by omega, i + 1, by omega, z.1, z.2 _ _ upd_same⟩
    | brk => exact z.elim
    | ret a => exact z
  · obtain rfl : i = vs.length := by omega
    refine (next_tup_end hh h3 (by simp)).ok ?_
    exact fin _ _ (hst _ _ _ _ hI (Frame.dropped fun t o q => by rw [h3] at q; cases q; rfl))
end
end Nx
end
section
set_option autoImplicit false
namespace Nx
section
variable {κ : Type} [DecidableEq κ] {α : Type}
theorem look_memN {l : List (κ × α)} (h : (l.map (·.1)).Nodup) {p : κ × α} (hp : p ∈ l) : look l p.1 = some p.2 := by
  induction l with
  | nil => cases hp
  | cons q r ih =>
    obtain ⟨h1, h2⟩ := List.nodup_cons.mp h
    unfold look
    rcases List.mem_cons.mp hp with rfl | hp
    · rw [if_pos rfl]
    · have : q.1 ≠ p.1 := fun e => h1 (by show q.1 ∈ _; rw [e]; exact List.mem_map.mpr ⟨p, hp, rfl⟩)
      rw [if_neg this]
      exact ih h2 hp
theorem mergeA_sub {x m : List (κ × α)} (h : ∀ p ∈ m, look x p.1 = some p.2) : mergeA x m = x := by
  induction m with
  | nil => rfl
  | cons p r ih =>
    show mergeA (put x p.1 p.2) r = x
    rw [put_id (h p (.head _))]
    exact ih fun q hq => h q (.tail _ hq)
theorem mergeA_self {x : List (κ × α)} (h : (x.map (·.1)).Nodup) : mergeA x x = x := mergeA_sub fun _ hp => look_memN h hp
theorem mergeA_app {acc m : List (κ × α)} (h : ((acc ++ m).map (·.1)).Nodup) : mergeA acc m = acc ++ m := by
  induction m generalizing acc with
  | nil => simp [mergeA]
  | cons p r ih =>
    show mergeA (put acc p.1 p.2) r = _
    have hn : look acc p.1 = none := by
      cases q : look acc p.1 with
      | none => rfl
      | some a =>
        have h1 : p.1 ∈ acc.map (·.1) := look_isSome.mp (by rw [q]; rfl)
        rw [List.map_append, List.nodup_append] at h
        exact absurd rfl (h.2.2 _ h1 p.1 (by simp))
    rw [put_new _ hn, ih (by rw [List.append_assoc]; exact h), List.append_assoc]
    rfl
theorem mergeA_nil {m : List (κ × α)} (h : (m.map (·.1)).Nodup) : mergeA [] m = m := by
  rw [mergeA_app (by simpa using h)]; rfl
end
theorem rows_copy (l : List (Int × List (Str × Int))) : ∀ (g : GC), ((g.nodes ++ l).map (·.1)).Nodup → (∀ p ∈ l, (p.2.map (·.1)).Nodup) →
    (g.rows [] (l.map fun p => (p.1, some p.2))).nodes = g.nodes ++ l ∧ (g.rows [] (l.map fun p => (p.1, some p.2))).eg = g.eg ∧ (g.rows [] (l.map fun p => (p.1, some p.2))).whole = g.whole := by
  induction l with
  | nil => intro g _ _; exact ⟨(List.append_nil _).symm, rfl, rfl⟩
  | cons p r ih =>
    intro g h hs
    have hn : look g.nodes p.1 = none := by
      cases q : look g.nodes p.1 with
      | none => rfl
      | some a =>
        have h1 : p.1 ∈ g.nodes.map (·.1) := look_isSome.mp (by rw [q]; rfl)
        rw [List.map_append, List.nodup_append] at h
        exact absurd rfl (h.2.2 _ h1 p.1 (by simp))
    have e1 : ((g.node p.1).attr p.1 (mergeA [] p.2)).nodes = g.nodes ++ [p] := by
      rw [GC.attr_nodes, hn, put_new _ hn, mergeA_nil (hs p (.head _))]
      show g.nodes ++ [(p.1, mergeA [] p.2)] = _
      rw [mergeA_nil (hs p (.head _))]
    have := ih ((g.node p.1).attr p.1 (mergeA [] p.2)) (by rw [e1, List.append_assoc]; exact h) fun q hq => hs q (.tail _ hq)
    rw [e1, List.append_assoc] at this
    refine ⟨this.1, this.2.1.trans ?_, this.2.2.trans ?_⟩
    · show (g.node p.1).eg = g.eg; exact (GC.node_eg g p.1).1
    · show (g.node p.1).whole = g.whole; exact (GC.node_eg g p.1).2
theorem edges_copy {dir : Bool} (g0 : GC) (hS : ∀ k x, g0.eg k = some x → (x.map (·.1)).Nodup) (es : List ERow) : ∀ (g : GC), (∀ e ∈ es, e.1 ∈ g.keys ∧ e.2.1 ∈ g.keys ∧ g0.eg (ek dir e.1 e.2.1) = some e.2.2) → (∀ k, g.eg k = none ∨ g.eg k = g0.eg k) →
    (g.edges dir [] es).nodes = g.nodes ∧ (g.edges dir [] es).whole = g.whole ∧ (∀ k, (g.edges dir [] es).eg k = none ∨ (g.edges dir [] es).eg k = g0.eg k) ∧ (∀ k, g.eg k = g0.eg k → (g.edges dir [] es).eg k = g0.eg k) ∧ ∀ e ∈ es, (g.edges dir [] es).eg (ek dir e.1 e.2.1) = g0.eg (ek dir e.1 e.2.1) := by
  induction es with
  | nil => intro g _ h; exact ⟨rfl, rfl, h, fun _ z => z, fun _ z => nomatch z⟩
  | cons e r ih =>
    intro g h1 h2
    obtain ⟨a1, a2, a3⟩ := h1 e (.head _)
    have n1 : g.node e.1 = g := GC.node_old (look_isSome.mpr a1)
    have n2 : g.node e.2.1 = g := GC.node_old (look_isSome.mpr a2)
    have hg1 : ((g.node e.1).node e.2.1).edge dir e.1 e.2.1 ([] ++ e.2.2) = g.edge dir e.1 e.2.1 e.2.2 := by rw [n1, n2]; rfl
    have he : ∀ k, (g.edge dir e.1 e.2.1 e.2.2).eg k = if k = ek dir e.1 e.2.1 then g0.eg k else g.eg k := by
      intro k
      rw [GC.edge_eg]
      by_cases q : k = ek dir e.1 e.2.1
      · rw [if_pos q, if_pos q, q, a3]
        rcases h2 (ek dir e.1 e.2.1) with z | z
        · rw [z]; show some (mergeA [] e.2.2) = _; rw [mergeA_nil (hS _ _ a3)]
        · rw [z, a3]; show some (mergeA e.2.2 e.2.2) = _; rw [mergeA_self (hS _ _ a3)]
      · rw [if_neg q, if_neg q]
    have hk := GC.edge_keys (dir := dir) (g := g) (u := e.1) (v := e.2.1) (more := e.2.2)
    have := ih (g.edge dir e.1 e.2.1 e.2.2) (fun x hx => by rw [hk.1]; exact h1 x (.tail _ hx)) (fun k => by
      rw [he]
      split
      · exact .inr rfl
      · exact h2 k)
    have hst : g.edges dir [] (e :: r) = (g.edge dir e.1 e.2.1 e.2.2).edges dir [] r := by
      show GC.edges dir [] (((g.node e.1).node e.2.1).edge dir e.1 e.2.1 ([] ++ e.2.2)) r = _
      rw [hg1]
    rw [hst]
    obtain ⟨c1, c2, c3, c4, c5⟩ := this
    refine ⟨c1.trans hk.2.1, c2.trans hk.2.2, c3, fun k z => c4 k ?_, fun x hx => ?_⟩
    · rw [he]
      split
      · rfl
      · exact z
    · rcases List.mem_cons.mp hx with rfl | hx
      · exact c4 _ (by rw [he, if_pos rfl])
      · exact c5 x hx
theorem Rel.copy {dir : Bool} {g : GC} {n : List (Int × List (Str × Int))} {e : List ((Int × Int) × List (Str × Int))} {w : List (Str × Int)} (r : Rel g n e w) (h : Wf dir g) : Rel (g.copyOf dir) n e w := by
  obtain ⟨a1, a2, a3⟩ := rows_copy g.nodes ({ GC.empty with whole := mergeA [] g.whole } : GC) (by simpa [GC.empty, GC.keys] using h.nod) fun p hp => by
    have h1 : (g.nodes.map (·.1)).Nodup := h.nod
    exact (h.smN p.1 p.2 (look_memN h1 hp)).1
  have hk : (({ GC.empty with whole := mergeA [] g.whole } : GC).rows [] (g.nodes.map fun p => (p.1, some p.2))).keys = g.keys := by
    unfold GC.keys
    rw [a1]; rfl
  have hes : ∀ x ∈ flat (rowsOf dir g), x.1 ∈ g.keys ∧ x.2.1 ∈ g.keys ∧ g.eg (ek dir x.1 x.2.1) = some x.2.2 ∧ x.2.1 ∈ g.adj x.1 := by
    intro x hx
    unfold flat rowsOf at hx
    rw [List.mem_flatMap] at hx
    obtain ⟨y, hy, hx⟩ := hx
    rw [List.mem_map] at hy
    obtain ⟨u, hu, rfl⟩ := hy
    unfold rowOf at hx
    rw [List.mem_map] at hx
    obtain ⟨p, hp, rfl⟩ := hx
    rw [List.mem_map] at hp
    obtain ⟨v, hv, rfl⟩ := hp
    have hs := (h.adjI u v).mp hv
    obtain ⟨z, hz⟩ := Option.isSome_iff_exists.mp hs
    exact ⟨hu, (h.adjk hv).2, by show g.eg (ek dir u v) = some ((g.eg (ek dir u v)).getD []); rw [hz]; rfl, hv⟩
  obtain ⟨c1, c2, c3, c4, c5⟩ := edges_copy (dir := dir) g (fun k x z => (h.smE k x z).1) (flat (rowsOf dir g)) _ (fun x hx => by rw [hk]; exact ⟨(hes x hx).1, (hes x hx).2.1, (hes x hx).2.2.1⟩) (fun k => .inl (by rw [a2]; rfl))
  refine ⟨?_, fun k => ?_, ?_⟩
  · show (GC.edges dir [] _ _).nodes = n
    rw [c1, a1]; exact r.n
  · show (GC.edges dir [] _ _).eg k = _
    rw [← r.e]
    cases q : g.eg k with
    | none =>
      rcases c3 k with z | z
      · exact z
      · exact z.trans q
    | some x =>
      have hs : (g.eg k).isSome = true := by rw [q]; rfl
      obtain ⟨hu, hv⟩ := h.egk k hs
      have hek : ek dir k.1 k.2 = k := by
        cases dir with
        | true => rfl
        | false =>
          have := h.egc k hs rfl
          show (min k.1 k.2, max k.1 k.2) = k
          rw [Int.min_eq_left this, Int.max_eq_right this]
      have hin : (k.1, k.2, x) ∈ flat (rowsOf dir g) := by
        unfold flat rowsOf
        rw [List.mem_flatMap]
        refine ⟨_, List.mem_map.mpr ⟨k.1, hu, rfl⟩, ?_⟩
        unfold rowOf
        rw [List.mem_map]
        refine ⟨(k.2, x), List.mem_map.mpr ⟨k.2, (h.adjI k.1 k.2).mpr (by rw [hek]; exact hs), ?_⟩, rfl⟩
        rw [hek, q]; rfl
      have := c5 _ hin
      dsimp only at this
      rw [hek] at this
      rw [this, q]
  · show (GC.edges dir [] _ _).whole = w
    rw [c2, a3]
    show mergeA [] g.whole = w
    rw [mergeA_nil h.smW.1]; exact r.w
end Nx
end
section
set_option autoImplicit false
namespace Nx
section
variable {prog : Program} {w : World} {K : Type} [DecidableEq K] {knd : KeyKind prog w K} {A : Around} {E : Value → Shared → Prop} {s : Shared}
theorem one_of_hash {κ α : Type} {f : κ → Int} {xs : List (κ × α)} (hn : (xs.map (·.1)).Nodup) (hd : ∀ x ∈ xs, ∀ y ∈ xs, f x.1 = f y.1 → x.1 = y.1) (h : Int) : (xs.filter fun x => f x.1 == h).length ≤ 1 := by
  have h1 : ((xs.filter fun x => f x.1 == h).map (·.1)).Nodup := (List.filter_sublist.map _).nodup hn
  have h2 : ∀ x ∈ xs.filter (fun x => f x.1 == h), ∀ y ∈ xs.filter (fun x => f x.1 == h), x.1 = y.1 := by
    intro x hx y hy
    obtain ⟨hx1, hx2⟩ := List.mem_filter.mp hx
    obtain ⟨hy1, hy2⟩ := List.mem_filter.mp hy
    exact hd x hx1 y hy1 (by rw [eq_of_beq hx2, eq_of_beq hy2])
  generalize xs.filter (fun x => f x.1 == h) = l at h1 h2
  match l, h1, h2 with
  | [], _, _ => exact Nat.zero_le _
  | [_], _, _ => exact Nat.le_refl _
  | x :: y :: r, h1, h2 =>
    have := h2 x (.head _) y (.tail _ (.head _))
    simp only [List.map_cons, List.nodup_cons, List.mem_cons, not_or] at h1
    exact absurd this h1.1.1
theorem entries_pairs {id : String} {d : Addr} {o : Obj} {es ep} {xs : List (List K × Addr × Value)} {Q : Array DictEntry → Shared → Prop} (ho : s.heap.get? d = some o) (hd : o.data = .dict es ep) (he : es.toList = xs.map (entryOfKey (tupleKind knd))) (hk : ∀ x ∈ xs, IsTupleKey knd s.heap x.1 x.2.1)
    (hn : (xs.map (·.1)).Nodup) (hx : ∀ x ∈ xs, ∀ y ∈ xs, tupleKeyHash knd x.1 = tupleKeyHash knd y.1 → x.1 = y.1) (h : Q es s) :
    wpAny (model prog w) A (Builtin.Dict.entriesForEmpty id d) Q E s := by
  unfold Builtin.Dict.entriesForEmpty
  refine wpAny_bind (wpAny_dictEntries ho hd ?_)
  have hone : ∀ v : Int, ¬ (es.filter (·.hash == v)).size > 1 := fun v => by
    have h1 := one_of_hash (f := tupleKeyHash knd) hn hx v
    have h2 : (es.filter (·.hash == v)).size = (es.toList.filter (·.hash == v)).length := by rw [← Array.length_toList, Array.toList_filter]
    rw [h2, he, List.filter_map, List.length_map]
    exact Nat.not_lt.mpr h1
  refine wpAny_bind ?_
  rw [← Array.forIn_toList, he]
  refine wpAny_forIn_list _ (fun rest _ s' => s' = s ∧ ∀ e ∈ rest, ∃ x ∈ xs, e = entryOfKey (tupleKind knd) x) _ ?_ ?_ _ _ ⟨rfl, fun e hin => by
    obtain ⟨x, hx, rfl⟩ := List.mem_map.mp hin
    exact ⟨x, hx, rfl⟩⟩
  · rintro e rest r s' ⟨rfl, hall⟩
    obtain ⟨x, hx, rfl⟩ := hall _ List.mem_cons_self
    refine wpAny_bind ?_
    show wpAny _ _ (Builtin.Dict.quietEq (.ref x.2.1)) _ _ _
    unfold Builtin.Dict.quietEq
    refine wpAny_bind (wpAny_specialOf (hk x hx).typeIs F.slot_tuple_eq.lookup (wpAny_pure ?_))
    have e1 : (some (Value.builtin "tuple.__eq__") == some (Value.builtin "object.__eq__")) = false := by decide
    rw [e1]
    simp only [Bool.not_false, if_true]
    rw [if_neg (hone _)]
    exact wpAny_pure ⟨rfl, fun e he => hall e (List.mem_cons_of_mem _ he)⟩
  · rintro r s' ⟨rfl, _⟩
    exact wpAny_pure h
theorem merge_pairs {nm : String} {d o : Addr} {xs : List (List K × Addr × Value)} {Q : Unit → Shared → Prop} (hdo : d ≠ o) (hoS : (o == sysModules) = false)
    (hd : s.heap.DictOfH (tupleKind knd) d []) (ho : s.heap.DictOfH (tupleKind knd) o xs) (hx : ∀ x ∈ xs, ∀ y ∈ xs, tupleKeyHash knd x.1 = tupleKeyHash knd y.1 → x.1 = y.1)
    (hQ : ∀ h', h'.DictOfH (tupleKind knd) d xs → Heap.SameBut d s.heap h' → Q () { s with heap := h' })
    (hsz : xs.length ≤ sizeLine) :
    wpAny (model prog w) A (Builtin.Dict.mergeDict nm d o) Q E s := by
  obtain ⟨od, esd, epd, hod, hcd, hdd, hed, hkd, hnd⟩ := id hd
  obtain ⟨oo, eso, epo, hoo, hco, hdo', heo, hko, hno⟩ := id ho
  have hes : esd = #[] := Array.toList_eq_nil_iff.mp hed
  have hsx := size_of_entries heo
  unfold Builtin.Dict.mergeDict
  rw [if_neg (by simpa using hdo)]
  unfold Builtin.Dict.showsAll
  rw [if_neg (by rw [hoS]; exact Bool.false_ne_true)]
  refine wpAny_bind (wpAny_pure ?_)
  refine wpAny_bind (wpAny_dictEntries hoo hdo' ?_)
  cases xs with
  | nil =>
    have h0 : eso = #[] := Array.toList_eq_nil_iff.mp heo
    subst h0
    dsimp only
    rw [if_neg (by simp)]
    refine wpAny_bind (wpAny_dictEpoch hoo hdo' ?_)
    refine wpAny_bind (wpAny_dictEntries hoo hdo' ?_)
    refine wpAny_bind ?_
    simp only [List.size_toArray, List.length_nil, Std.Legacy.Range.forIn_eq_forIn_range', Std.Legacy.Range.size, Nat.sub_zero, Nat.add_sub_cancel, Nat.div_one, List.range'_zero, List.forIn_nil]
    exact wpAny_pure (wpAny_pure (hQ _ hd (Heap.SameBut.refl _ _)))
  | cons x xs =>
    have hfew : (decide (eso.size ≤ 8) && eso.all fun e => (keyPart e.key).isSome) = false := by
      rw [Bool.and_eq_false_iff]
      refine .inr ?_
      rw [← Array.all_toList, heo]
      rfl
    dsimp only
    rw [hfew]
    rw [if_pos (by rfl)]
    refine wpAny_bind (wpAny_dictEntries hod hdd ?_)
    subst hes
    rw [if_pos (by rfl)]
    refine wpAny_bind (entries_pairs hoo hdo' heo hko hno hx ?_)
    have hne : (!eso.isEmpty) = true := by
      have : eso.size ≠ 0 := by rw [hsx]; exact Nat.succ_ne_zero _
      simpa [Array.isEmpty] using this
    rw [if_pos hne]
    refine wpAny_bind (wpAny_updateDictKeysTo hod hdd (wpAny_pure (hQ _ ⟨_, _, epd + 1, Heap.get?_update_self _ hod (Obj.isFreed_of_dict (Obj.data_mapDictKeys hdd _)), hcd.mapDictKeys _, Obj.data_mapDictKeys hdd _, heo, fun y hy => (tupleKind knd).keeps (hko y hy) hod hdd (Heap.SameBut.update ..), hno⟩ (Heap.SameBut.update ..))) (by rw [hsx]; omega))
theorem call_dict_pairs {o : Addr} {xs : List (List K × Addr × Value)} {Q : Value → Shared → Prop} (hoS : (o == sysModules) = false) (ho : s.heap.DictOfH (tupleKind knd) o xs) (hx : ∀ x ∈ xs, ∀ y ∈ xs, tupleKeyHash knd x.1 = tupleKeyHash knd y.1 → x.1 = y.1) (hsz : xs.length ≤ sizeLine)
    (h : ∀ h', h'.DictOfH (tupleKind knd) s.heap.objs.size xs → Heap.SameBut s.heap.objs.size (s.heap.push { cls := .type "dict", data := .dict #[] }) h' → Q (.ref s.heap.objs.size) { s with heap := h' }) :
    wpAny (model prog w) A (call (.type "dict") [.ref o]) Q E s := by
  refine callType_codes (Q₁ := fun obj s₁ => obj = .ref s.heap.objs.size ∧ s₁ = { s with heap := s.heap.push { cls := .type "dict", data := .dict #[] } }) F.kt_called_dict (F.kt_typeCall_dict_1 _) F.entry_dict_init (kt_code_dict_new _ ⟨rfl, rfl⟩) ?_
  rintro obj s₁ ⟨rfl, rfl⟩
  have hnew : (s.heap.push { cls := .type "dict", data := .dict #[] }).DictOfH (tupleKind knd) s.heap.objs.size [] := Heap.DictOfH.new s.heap
  have hoo : s.heap.objs.size ≠ o := by
    obtain ⟨_, _, _, hg, _⟩ := ho
    exact fun e => absurd (Heap.lt_size hg) (by rw [e]; exact Nat.lt_irrefl _)
  have ho' : (s.heap.push { cls := .type "dict", data := .dict #[] }).DictOfH (tupleKind knd) o xs := by
    obtain ⟨ob, es, ep, g, h1, h2, h3, h4, h5⟩ := ho
    refine ⟨ob, es, ep, Heap.get?_push_of_some _ g, h1, h2, h3, fun x hx => ?_, h5⟩
    obtain ⟨o', items, n, q1, q2, q3, q4⟩ := h4 x hx
    exact ⟨o', items, n, Heap.get?_push_of_some _ q1, q2, q3, q4⟩
  refine ⟨hnew.typeIs, F.args_dict_init_2 _ _, ?_⟩
  unfold Builtin.«dict.__init__»
  refine wpAny_bind ?_
  unfold Builtin.Dict.selfAndRest
  refine wpAny_bind (wpAny_notOrdered_dict hnew.typeIs ?_)
  show wpAny _ _ (pure (s.heap.objs.size, [Value.ref o])) _ _ _
  refine wpAny_pure ?_
  show wpAny _ _ (Builtin.Dict.updateFrom "dict.__init__" s.heap.objs.size (.ref o) [] .none) _ _ _
  unfold Builtin.Dict.updateFrom
  refine wpAny_bind (wpAny_typeOf ho'.typeIs ?_)
  rw [if_neg (by decide)]
  refine wpAny_bind ?_
  unfold Builtin.Dict.merge
  refine wpAny_bind ?_
  unfold Builtin.Dict.readDirectly
  refine wpAny_bind (wpAny_isInstance ho'.typeIs isSubtype_dict_dict ?_)
  simp only [Bool.not_true, Bool.false_eq_true, if_false]
  refine wpAny_bind (wpAny_specialOf ho'.typeIs F.slot_dict_iter.lookup (wpAny_pure ?_))
  simp only [beq_self_eq_true, if_true]
  refine wpAny_bind (wpAny_pure ?_)
  refine merge_pairs hoo hoS hnew ho' hx (fun h' hd' hs' => ?_) hsz
  show wpAny _ _ (Builtin.Dict.addKeywords s.heap.objs.size [] >>= _) _ _ _
  exact wpAny_bind (wpAny_pure (wpAny_pure ⟨rfl, h h' hd' hs'⟩))
end
/-- the hashes of pairs of small numbers differ -/
def pairHash (x : Nat) : Int := reduceHash (Builtin.Tuple.tupleHashOf [hashInt ((x / 5 : Nat) : Int), hashInt ((x % 5 : Nat) : Int)])
theorem pairHash_inj : ∀ x, x < 25 → ∀ y, y < 25 → pairHash x = pairHash y → x = y := by decide +kernel
theorem pairHash_of {prog : Program} {w : World} {a b : Int} (h1 : 0 ≤ a) (h2 : a < 5) (h3 : 0 ≤ b) (h4 : b < 5) : ∃ x, x < 25 ∧ tupleKeyHash (intKind prog w) [a, b] = pairHash x ∧ ((x / 5 : Nat) : Int) = a ∧ ((x % 5 : Nat) : Int) = b := by
  obtain ⟨i, rfl⟩ := Int.eq_ofNat_of_zero_le h1
  obtain ⟨j, rfl⟩ := Int.eq_ofNat_of_zero_le h3
  have e1 : (i * 5 + j) / 5 = i := by omega
  have e2 : (i * 5 + j) % 5 = j := by omega
  refine ⟨i * 5 + j, by omega, ?_, by rw [e1], by rw [e2]⟩
  unfold pairHash
  rw [e1, e2]
  rfl
theorem hash_pairs {prog : Program} {w : World} {a b a' b' : Int} (h1 : 0 ≤ a) (h2 : a < 5) (h3 : 0 ≤ b) (h4 : b < 5) (h1' : 0 ≤ a') (h2' : a' < 5) (h3' : 0 ≤ b') (h4' : b' < 5) (h : tupleKeyHash (intKind prog w) [a, b] = tupleKeyHash (intKind prog w) [a', b']) : ([a, b] : List Int) = [a', b'] := by
  obtain ⟨x, hx, e1, rfl, rfl⟩ := pairHash_of (prog := prog) (w := w) h1 h2 h3 h4
  obtain ⟨y, hy, e2, rfl, rfl⟩ := pairHash_of (prog := prog) (w := w) h1' h2' h3' h4'
  rw [e1, e2] at h
  rw [pairHash_inj x hx y hy h]
section
variable {nf : Bool} {c : Cx} {A : Around} {H : AHeap}
theorem cw_dict_dP (t : Tag) {d : Addr} {t' : Tag} {l : List ((Int × Int) × AV)} {E' : AV → AHeap → Prop} (hd : H d = some (t', .dP l)) (hl : ∀ k ∈ l.map (·.1), 0 ≤ k.1 ∧ k.1 < 5 ∧ 0 ≤ k.2 ∧ k.2 < 5) : CallW nf c A H (.type "dict") [.ref d] (fun r H' => ∃ n, H n = none ∧ r = .ref n ∧ H' = upd H n (t, .dP l)) E' := fun W s vs outer ok hA hff hv => by
  cases hv with | cons r1 hv => cases hv with | nil =>
  obtain rfl : _ = Value.ref d := r1
  obtain ⟨xs, D, kv, z⟩ := ok.dP hd
  have h1 := kv.length
  have hk : ∀ x ∈ xs, ∃ k : Int × Int, x.1 = [k.1, k.2] ∧ 0 ≤ k.1 ∧ k.1 < 5 ∧ 0 ≤ k.2 ∧ k.2 < 5 := fun x hx => by
    have : x.1 ∈ (l.map (·.1)).map pairKey := by rw [← kv.keys]; exact List.mem_map.mpr ⟨x, hx, rfl⟩
    obtain ⟨k, hk, e⟩ := List.mem_map.mp this
    exact ⟨k, e.symm, hl k hk⟩
  refine wpN_of (call_dict_pairs (c.noMods (ok.own _ _ _ hd).1) D (fun x hx y hy e => ?_) (by rw [sizeLine_eq]; omega) fun h' hm hs => ?_)
  · obtain ⟨k, e1, a1, a2, a3, a4⟩ := hk x hx
    obtain ⟨k', e2, b1, b2, b3, b4⟩ := hk y hy
    rw [e1, e2] at e ⊢
    exact hash_pairs a1 a2 a3 a4 b1 b2 b3 b4 e
  obtain ⟨ob, es, ep, g, D'⟩ := id hm
  refine ⟨W, _, _, ok.new (t := t) s.toks (fun b x e => (hs.2 b (Nat.ne_of_lt (Heap.lt_size e))).trans (Heap.get?_push_of_some _ e)) ?_ g (OR.dP' hm g kv z) rfl, VR.ref', _, ok.fresh, rfl, rfl⟩
  rw [hs.1, Heap.size_push]
  exact Nat.le_succ _
end
end Nx
end
section
set_option autoImplicit false
namespace Nx
section
variable {nf : Bool} {c : Cx} {A : Around} {env : Env} {m : LM} {H : AHeap} {E : AV → LM → AHeap → Prop} {W : WM} {s : Shared}
/-- for x in range(e): .., the number not known -/
theorem a1_rangeE (rid : Nat) {x : Str} {p1 p2 p3 p4 : Pos} {e : Expr} {body : List Stmt} {Q : AFl → LM → AHeap → Prop} (gR : c.mg "range" = none) (bR : c.mb "range" = some (.type "range")) (hh : A.handled = none) (Inv : LM → AHeap → Prop)
    (he : AE nf c A env m H e (fun v m0 H0 => (∃ n : Nat, n ≤ 1000 ∧ v = .int n) ∧ Inv m0 H0) E)
    (hst : ∀ m H H', Inv m H → Frame rid H H' → Inv m H')
    (turn : ∀ (i : Int) m1 H1, Inv m1 H1 → AS nf c A env (setm m1 x (.int i)) H1 body (fun fl m' H' => match fl with
      | .next => Inv m' H' ∧ ∀ b o, H1 b = some (⟨rid, 0, []⟩, o) → H' b = some (⟨rid, 0, []⟩, o)
      | .cont => Inv m' H' ∧ ∀ b o, H1 b = some (⟨rid, 0, []⟩, o) → H' b = some (⟨rid, 0, []⟩, o)
      | .brk => False
      | .ret a => Q (.ret a) m' H') (fun _ _ _ => False))
    (fin : ∀ m1 H1, Inv m1 H1 → Q .next m1 H1)
    (hl : env.kindOf x = some .local := by rfl) (hk : env.scope.kind = .function := by rfl) (hl2 : env.kindOf "range" = some .globalImplicit := by rfl) (hg : env.globals = mainGlobals := by rfl) (hb : env.builtins = builtinsNs := by rfl)
    (hp : (backTo p3 (starEach [e] env)).any (·.1) = false := by rfl)
    (he' : eval (.Call (.Name "range" p2) [e] [] p3) env = (do let fv ← eval (.Name "range" p2) env; callWith p3 fv [] (backTo p3 (starEach [e] env)) (backToKw p3 (keywordEach [] env))) := by rfl)
    (hst1 : starEach (e :: []) env = (false, eval e env) :: starEach [] env := by rfl)
    (hs : ∀ x, foldedSetIterable (.Call (.Name "range" p2) [e] [] p3) env x = pure x := by intro _; rfl) :
    A1 nf c A env m H (.For (.Name x p1) (.Call (.Name "range" p2) [e] [] p3) body [] p4) Q E := by
  refine a1_forK (ae_callW (pe_blt gR bR hg hb hk hl2) con_is keep_type (al_cons (he.mono (fun v m0 H0 ⟨⟨n, hz, e1⟩, hI0⟩ => ?_) fun _ _ _ z => z) hst1) hp he') hs
  subst e1
  refine al_nil ((cw_range (⟨rid, 1, []⟩) (n := (n : Int)) (E' := fun _ _ => False)).mono ?_ fun _ _ z => z.elim)
  rintro v H1 ⟨r, hr, rfl, rfl⟩
  intro W s u ok ru
  refine wpN_mono (iter_rng (⟨rid, 0, []⟩) upd_same (by omega) (by omega) W s u ok ru) ?_ fun _ _ z => z.elim
  rintro o s' ⟨W', H2, it, rfl, p, hit, rfl⟩
  have hitr : it ≠ r := fun q => by rw [q, upd_same] at hit; cases hit
  have hI1 : Inv m0 (upd (upd H0 r (⟨rid, 1, []⟩, .rng n)) it (⟨rid, 0, []⟩, rngIt 0 n)) := hst _ _ _ hI0 ((Frame.new hr).trans (Frame.new hit))
  refine ⟨W', _, it, rfl, p, fun k m1 H3 => ∃ i : Nat, k + i = n ∧ Inv m1 H3 ∧ H3 it = some (⟨rid, 0, []⟩, rngIt i ((n : Int) - i)), ⟨n, 0, rfl, hI1, by simpa using upd_same⟩, ?_⟩
  rintro k m1 H3 ⟨i, hk', hI, h3⟩
  rcases Nat.lt_or_ge i n with hi | hi
  · refine (next_rng_item h3 (by omega)).ok ?_
    have f3 : Frame rid H3 (upd H3 it (⟨rid, 0, []⟩, rngIt ((i : Int) + 1) ((n : Int) - i - 1))) := Frame.upd fun t o q => by rw [h3] at q; cases q; rfl
    refine asg_name ?_ hl hk
    refine (turn i m1 _ (hst _ _ _ hI f3)).mono (fun fl m' H' z => ?_) fun _ _ _ z => z
    have e1 : ((i : Int) + 1) = ((i + 1 : Nat) : Int) := by omega
    cases fl with
    | next => exact ⟨k - 1, by omega, i + 1, by omega, z.1, by rw [← e1, ← Int.sub_sub]; exact z.2 _ _ upd_same⟩
    | cont => exact ⟨k - 1, by omega, i + 1, by omega, z.1, by rw [← e1, ← Int.sub_sub]; exact z.2 _ _ upd_same⟩
    | brk => exact z.elim
    | ret a => exact z
  · obtain rfl : i = n := by omega
    refine (next_rng_end hh h3 (by omega)).ok ?_
    exact fin _ _ (hst _ _ _ hI (Frame.dropped fun t o q => by rw [h3] at q; cases q; rfl))
end
end Nx
end
section
set_option autoImplicit false
namespace Nx
abbrev sDe := top 19
def FnG (c : Cx) (nm : Str) (st : Stmt) (f : Addr) : Prop := c.mg nm = some (.ref f) ∧ KeepOk c (.ref f) ∧ ∃ cdv, FnIs c f nm (fpars st) (fbody st) (fscope st) .none .none cdv
structure LawFns (c : Cx) : Prop where
  next : ∃ f, FnG c "_law_next" sNext f
  put : ∃ f, FnG c "_law_put" sPut f
/-- what the law's deeds may touch -/
def FrD (gid : Nat) (H H' : AHeap) : Prop := ∀ b t o, H b = some (t, o) → t.own ≠ gid → t.own ≠ xo → ¬ (60 ≤ t.own ∧ t.own < 100) → t.own ≠ 50 → t.own ≠ 52 → H' b = some (t, o)
theorem FrD.refl (gid : Nat) (H : AHeap) : FrD gid H H := fun _ _ _ h _ _ _ _ _ => h
theorem FrD.trans {gid : Nat} {H H' H'' : AHeap} (x : FrD gid H H') (y : FrD gid H' H'') : FrD gid H H'' := fun b t o h n1 n2 n3 n4 n5 => y b t o (x b t o h n1 n2 n3 n4 n5) n1 n2 n3 n4 n5
theorem Frame.fd {gid : Nat} {H H' : AHeap} (h : Frame gid H H') : FrD gid H H' := fun b t o hb n1 n2 _ _ _ => h b t o hb n1 n2
theorem Frame.fd60 {rid gid : Nat} {H H' : AHeap} (h : Frame rid H H') (h1 : 60 ≤ rid) (h2 : rid < 100) : FrD gid H H' := fun b t o hb _ n2 n3 _ _ => h b t o hb (fun e => n3 (by rw [e]; exact ⟨h1, h2⟩)) n2
theorem Frame.fd50 {rid gid : Nat} {H H' : AHeap} (h : Frame rid H H') (h1 : rid = 50 ∨ rid = 52) : FrD gid H H' := fun b t o hb _ n2 _ n4 n5 => h b t o hb (fun e => h1.elim (fun z => n4 (e.trans z)) fun z => n5 (e.trans z)) n2
abbrev tLn : Tag := ⟨50, 0, []⟩
abbrev tLe : Tag := ⟨50, 1, []⟩
abbrev tLw : Tag := ⟨50, 2, []⟩
abbrev tLs : Tag := ⟨52, 0, []⟩
theorem law5n : Law5 tLn := ⟨by decide, by decide⟩
theorem law5e : Law5 tLe := ⟨by decide, by decide⟩
theorem law5w : Law5 tLw := ⟨by decide, by decide⟩
/-- the law's state between its deeds -/
structure DSt (gid : Nat) (dir : Bool) (C CN : Addr) (loc : Loc) (mm : List (Str × AV)) (g : GC) (sa dn de dw : Addr) (x : Int) (n : List (Int × List (Str × Int))) (e : List ((Int × Int) × List (Str × Int))) (w : List (Str × Int)) (H : AHeap) : Prop where
  gr : GAt gid dir C CN loc mm g H
  d : DAt dn de dw tLn tLe tLw n e w H
  s : H sa = some (tLs, .list [.int x])
  r : Rel g n e w
  nd : (e.map (·.1)).Nodup
section
variable {c : Cx} {A : Around} {H H' : AHeap} {gid : Nat} {dir : Bool} {C CN CE D Cg : Addr} {loc : Loc} {mm : List (Str × AV)} {g : GC} {env : Env} {m : LM} {E : AV → LM → AHeap → Prop}
variable {sa dn de dw : Addr} {x : Int} {n : List (Int × List (Str × Int))} {e : List ((Int × Int) × List (Str × Int))} {w : List (Str × Int)}
theorem DSt.d5 {rid : Nat} (h : DSt gid dir C CN loc mm g sa dn de dw x n e w H) (f : Frame rid H H') (hr : rid ≠ 50) : DAt dn de dw tLn tLe tLw n e w H' :=
  ⟨f _ _ _ h.d.n (Ne.symm hr) (by decide), f _ _ _ h.d.e (Ne.symm hr) (by decide), f _ _ _ h.d.w (Ne.symm hr) (by decide)⟩
theorem DSt.junk {rid : Nat} (h : DSt gid dir C CN loc mm g sa dn de dw x n e w H) (f : Frame rid H H') (hr : 60 ≤ rid ∧ rid < 100) (hg : 0 < gid ∧ gid < 50) : DSt gid dir C CN loc mm g sa dn de dw x n e w H' :=
  ⟨h.gr.frame f (by omega) (by show gid + 100 ≠ rid; omega) (by show gid ≠ 0; omega), h.d.fr f (by omega) law5n law5e law5w, f _ _ _ h.s (by show 52 ≠ rid; omega) (by decide), h.r, h.nd⟩
theorem DSt.seed (h : DSt gid dir C CN loc mm g sa dn de dw x n e w H) (hg : 0 < gid ∧ gid < 50) (y : Int) : DSt gid dir C CN loc mm g sa dn de dw y n e w (upd H sa (tLs, .list [.int y])) ∧ FrD gid H (upd H sa (tLs, .list [.int y])) := by
  have f : Frame 52 H (upd H sa (tLs, .list [.int y])) := Frame.upd fun t o q => by rw [h.s] at q; cases q; rfl
  exact ⟨⟨h.gr.frame f (by omega) (by show gid + 100 ≠ 52; omega) (by show gid ≠ 0; omega), h.d5 f (by decide), upd_same, h.r, h.nd⟩, f.fd50 (.inr rfl)⟩
/-- _law_next(s, many) -/
theorem ae_next {nf : Bool} (hF : LawFns c) (rm : Rm A 2) (hg : 0 < gid ∧ gid < 50) {p1 p2 p3 : Pos} {em : Expr} {many : Int} {Q : AV → LM → AHeap → Prop} (hs : m "s" = some (.ref sa)) (h : DSt gid dir C CN loc mm g sa dn de dw x n e w H) (hm : ∀ H', PE c A env m H' em (.int many)) (h0 : 0 < many)
    (q : ∀ v y H', 0 ≤ v → v < many → DSt gid dir C CN loc mm g sa dn de dw y n e w H' → FrD gid H H' → Q (.int v) m H')
    (hg1 : env.globals = mainGlobals := by rfl) (hk1 : env.scope.kind = .function := by rfl) (hl1 : env.kindOf "_law_next" = some .globalImplicit := by rfl) (hl2 : env.kindOf "s" = some .local := by rfl)
    (hst1 : starEach [.Name "s" p2, em] env = (false, eval (.Name "s" p2) env) :: starEach [em] env := by rfl) (hst2 : starEach [em] env = (false, eval em env) :: starEach [] env := by rfl)
    (hn : (backToKw p3 (keywordEach [] env)).filterMap (·.1) = [] := by rfl) (hkw : (backToKw p3 (keywordEach [] env)).all (·.1.isSome) = true := by rfl) (hp : (backTo p3 (starEach [.Name "s" p2, em] env)).any (·.1) = false := by rfl)
    (he : eval (.Call (.Name "_law_next" p1) [.Name "s" p2, em] [] p3) env = (do let fv ← eval (.Name "_law_next" p1) env; callWith p3 fv [] (backTo p3 (starEach [.Name "s" p2, em] env)) (backToKw p3 (keywordEach [] env))) := by rfl) :
    AE nf c A env m H (.Call (.Name "_law_next" p1) [.Name "s" p2, em] [] p3) Q E := by
  obtain ⟨f, hG, hK, cdv, hFn⟩ := hF.next
  refine ae_call (names := []) (pe_glob hG hg1 hk1 hl1) con_is hK (al_cons (ae_pe (pe_name hs hk1 hl2) (al_cons (ae_pe (hm H) (al_nil ⟨[], kw_nil, rfl, ?_⟩)) hst2)) hst1) hn hkw hp he
  refine CallOk.mono (next_ok hFn rm.room h.s h0) ?_ fun _ _ z => z.elim
  rintro v H1 ⟨rfl, rfl⟩
  exact q _ _ _ (Int.fmod_nonneg_of_pos _ h0) (Int.fmod_lt_of_pos _ h0) (h.seed hg _).1 (h.seed hg _).2
/-- names in a deed -/
structure DNm (m : LM) (X sa dn de dw : Addr) (dir : Bool) (k a b more : Int) (nm : Str) : Prop where
  s : m "s" = some (.ref sa)
  gr : m "graph" = some (.ref X)
  di : m "is_directed" = some (.bool dir)
  n : m "nodes" = some (.ref dn)
  e : m "edges" = some (.ref de)
  w : m "whole" = some (.ref dw)
  kd : m "kind" = some (.int k)
  av : m "a" = some (.int a)
  bv : m "b" = some (.int b)
  mr : m "more" = some (.int more)
  name : m "name" = some (.str nm)
  pair : m "pair" = some (.tup [.int (ek dir a b).1, .int (ek dir a b).2])
def DPost (gid : Nat) (dir : Bool) (C CN : Addr) (loc : Loc) (sa dn de dw : Addr) (H H' : AHeap) : Prop := ∃ (loc' : Loc) (mm' : List (Str × AV)) (g' : GC) (y : Int) (n' : List (Int × List (Str × Int))) (e' : List ((Int × Int) × List (Str × Int))) (w' : List (Str × Int)), DSt gid dir C CN loc' mm' g' sa dn de dw y n' e' w' H' ∧ Same gid loc loc' ∧ FrD gid H H'
/-- _law_put(nodes, key, name, more) upon the vertices -/
theorem ae_put_n {nf : Bool} (hF : LawFns c) (hG : LawG c CE D Cg) (rm : Rm A 3) (hg : 0 < gid ∧ gid < 50) (hd : DAt dn de dw tLn tLe tLw n e w H) (hl : n.length < 1000) (hl2 : ∀ k old, look n k = some old → old.length < 1000) {p1 p2 p3 : Pos} {ek' en em : Expr} {k more : Int} {nm : Str} {Q : AV → LM → AHeap → Prop}
    (hn0 : m "nodes" = some (.ref dn)) (hk : PE c A env m H ek' (.int k)) (hnm : PE c A env m H en (.str nm)) (hm : PE c A env m H em (.int more))
    (q : DAt dn de dw tLn tLe tLw (put n k (put ((look n k).getD []) nm more)) e w (upd H dn (tLn, .dI (fdR (put n k (put ((look n k).getD []) nm more))))) → Frame 50 H (upd H dn (tLn, .dI (fdR (put n k (put ((look n k).getD []) nm more))))) → Q .none m (upd H dn (tLn, .dI (fdR (put n k (put ((look n k).getD []) nm more))))))
    (hg1 : env.globals = mainGlobals := by rfl) (hk1 : env.scope.kind = .function := by rfl) (hl1 : env.kindOf "_law_put" = some .globalImplicit := by rfl) (hl3 : env.kindOf "nodes" = some .local := by rfl)
    (hs1 : starEach [.Name "nodes" p2, ek', en, em] env = (false, eval (.Name "nodes" p2) env) :: starEach [ek', en, em] env := by rfl) (hs2 : starEach [ek', en, em] env = (false, eval ek' env) :: starEach [en, em] env := by rfl) (hs3 : starEach [en, em] env = (false, eval en env) :: starEach [em] env := by rfl) (hs4 : starEach [em] env = (false, eval em env) :: starEach [] env := by rfl)
    (hn : (backToKw p3 (keywordEach [] env)).filterMap (·.1) = [] := by rfl) (hkw : (backToKw p3 (keywordEach [] env)).all (·.1.isSome) = true := by rfl) (hp : (backTo p3 (starEach [.Name "nodes" p2, ek', en, em] env)).any (·.1) = false := by rfl)
    (he : eval (.Call (.Name "_law_put" p1) [.Name "nodes" p2, ek', en, em] [] p3) env = (do let fv ← eval (.Name "_law_put" p1) env; callWith p3 fv [] (backTo p3 (starEach [.Name "nodes" p2, ek', en, em] env)) (backToKw p3 (keywordEach [] env))) := by rfl) :
    AE nf c A env m H (.Call (.Name "_law_put" p1) [.Name "nodes" p2, ek', en, em] [] p3) Q E := by
  obtain ⟨f, hGl, hK, cdv, hFn⟩ := hF.put
  refine ae_call (names := []) (pe_glob hGl hg1 hk1 hl1) con_is hK (al_cons (ae_pe (pe_name hn0 hk1 hl3) (al_cons (ae_pe hk (al_cons (ae_pe hnm (al_cons (ae_pe hm (al_nil ⟨[], kw_nil, rfl, ?_⟩)) hs4)) hs3)) hs2)) hs1) hn hkw hp he
  refine CallOk.mono (put_ok (rowI c) hFn (hG.gb _ (by decide)) hG.bd (rm.less (by omega)) (t := tLn) hd.n hl (hl2 k)) ?_ fun _ _ z => z.elim
  rintro v H1 ⟨rfl, rfl⟩
  have f : Frame 50 H (upd H dn (tLn, .dI (fdR (put n k (put ((look n k).getD []) nm more))))) := Frame.upd fun t o z => by rw [hd.n] at z; cases z; rfl
  exact q ⟨upd_same, upd_of (ne_tag hd.e hd.n (by decide)) hd.e, upd_of (ne_tag hd.w hd.n (by decide)) hd.w⟩ f
theorem ae_put_e {nf : Bool} (hF : LawFns c) (hG : LawG c CE D Cg) (rm : Rm A 3) (hg : 0 < gid ∧ gid < 50) (hd : DAt dn de dw tLn tLe tLw n e w H) (hl : e.length < 1000) (hl2 : ∀ k old, look e k = some old → old.length < 1000) {p1 p2 p3 : Pos} {ek' en em : Expr} {k : Int × Int} {more : Int} {nm : Str} {Q : AV → LM → AHeap → Prop}
    (hn0 : m "edges" = some (.ref de)) (hk : PE c A env m H ek' (.tup [.int k.1, .int k.2])) (hnm : PE c A env m H en (.str nm)) (hm : PE c A env m H em (.int more))
    (q : DAt dn de dw tLn tLe tLw n (put e k (put ((look e k).getD []) nm more)) w (upd H de (tLe, .dP (fdR (put e k (put ((look e k).getD []) nm more))))) → Frame 50 H (upd H de (tLe, .dP (fdR (put e k (put ((look e k).getD []) nm more))))) → Q .none m (upd H de (tLe, .dP (fdR (put e k (put ((look e k).getD []) nm more))))))
    (hg1 : env.globals = mainGlobals := by rfl) (hk1 : env.scope.kind = .function := by rfl) (hl1 : env.kindOf "_law_put" = some .globalImplicit := by rfl) (hl3 : env.kindOf "edges" = some .local := by rfl)
    (hs1 : starEach [.Name "edges" p2, ek', en, em] env = (false, eval (.Name "edges" p2) env) :: starEach [ek', en, em] env := by rfl) (hs2 : starEach [ek', en, em] env = (false, eval ek' env) :: starEach [en, em] env := by rfl) (hs3 : starEach [en, em] env = (false, eval en env) :: starEach [em] env := by rfl) (hs4 : starEach [em] env = (false, eval em env) :: starEach [] env := by rfl)
    (hn : (backToKw p3 (keywordEach [] env)).filterMap (·.1) = [] := by rfl) (hkw : (backToKw p3 (keywordEach [] env)).all (·.1.isSome) = true := by rfl) (hp : (backTo p3 (starEach [.Name "edges" p2, ek', en, em] env)).any (·.1) = false := by rfl)
    (he : eval (.Call (.Name "_law_put" p1) [.Name "edges" p2, ek', en, em] [] p3) env = (do let fv ← eval (.Name "_law_put" p1) env; callWith p3 fv [] (backTo p3 (starEach [.Name "edges" p2, ek', en, em] env)) (backToKw p3 (keywordEach [] env))) := by rfl) :
    AE nf c A env m H (.Call (.Name "_law_put" p1) [.Name "edges" p2, ek', en, em] [] p3) Q E := by
  obtain ⟨f, hGl, hK, cdv, hFn⟩ := hF.put
  refine ae_call (names := []) (pe_glob hGl hg1 hk1 hl1) con_is hK (al_cons (ae_pe (pe_name hn0 hk1 hl3) (al_cons (ae_pe hk (al_cons (ae_pe hnm (al_cons (ae_pe hm (al_nil ⟨[], kw_nil, rfl, ?_⟩)) hs4)) hs3)) hs2)) hs1) hn hkw hp he
  refine CallOk.mono (put_ok (rowP c) hFn (hG.gb _ (by decide)) hG.bd (rm.less (by omega)) (t := tLe) hd.e hl (hl2 k)) ?_ fun _ _ z => z.elim
  rintro v H1 ⟨rfl, rfl⟩
  have f : Frame 50 H (upd H de (tLe, .dP (fdR (put e k (put ((look e k).getD []) nm more))))) := Frame.upd fun t o z => by rw [hd.e] at z; cases z; rfl
  exact q ⟨upd_of (ne_tag hd.n hd.e (by decide)) hd.n, upd_same, upd_of (ne_tag hd.w hd.e (by decide)) hd.w⟩ f
end
end Nx
end
section
set_option autoImplicit false
namespace Nx
def ifThen : Stmt → List Stmt
  | .If _ b _ _ => b
  | _ => []
def ifElse : Stmt → List Stmt
  | .If _ _ b _ => b
  | _ => []
abbrev iD0 : Stmt := pick (fbody sDe) 3
abbrev iD1 : Stmt := pick (ifElse iD0) 0
abbrev iD2 : Stmt := pick (ifElse iD1) 0
abbrev iD3 : Stmt := pick (ifElse iD2) 0
abbrev iD4 : Stmt := pick (ifElse iD3) 0
section
variable {nf : Bool} {c : Cx} {H : AHeap} {gid : Nat} {l dd : Addr} {vs : List AV} {nm : Str} {more : Int}
def DdAt (dd : Addr) (nm : Str) (more : Int) (H : AHeap) : Prop := H dd = some (⟨62, 0, []⟩, .dS (nums [(nm, more)]))
theorem src_n (hg : 0 < gid ∧ gid < 50) (es : List NRow) (hl : H l = some (⟨61, 0, []⟩, .list vs)) (hlen : es.length = vs.length) (hP : DdAt dd nm more H) (hi : ∀ i x H', vs[i]? = some x → DdAt dd nm more H' → nItem es gid i x H') :
    ∀ A' H', Rm A' 1 → Frame gid H H' → IterOk nf c A' H' (.ref l) (fun it H'' => ∃ Inv, Src c 1 gid 60 it es.length (nItem es gid) Inv ∧ (∀ i H1 H2, Inv i H1 → Keeps H1 H2 → Inv i H2) ∧ Inv 0 H'' ∧ Frame 60 H' H'') := by
  intro A' H' rm f
  have hl' := f _ _ _ hl (by show 61 ≠ gid; omega) (by decide)
  have hP' := f _ _ _ hP (by show 62 ≠ gid; omega) (by decide)
  refine (iter_list ⟨60, 0, []⟩ hl').mono fun it H2 ⟨hit, e⟩ => ?_
  subst e
  have hS := (src_list (c := c) (k := 1) (gid := gid) (sid := 60) (it := it) (l := l) (vs := vs) (t := ⟨61, 0, []⟩) (by show 61 ≠ gid; omega) (by decide) (by omega) (by decide) (by decide) (DdAt dd nm more) (fun H1 H2 h k => k _ _ _ h (by show 62 ≠ gid; omega) (by decide)) (fun H1 H2 h k => k _ _ _ h (by decide) (by decide)))
  have hS2 := hS.item (item' := nItem es gid) fun i x H1 z => hi i x H1 z.1 z.2
  rw [← hlen] at hS2
  refine ⟨_, hS2, ?_, ⟨upd_same, ?_, ?_⟩, Frame.new hit⟩
  · rintro i H1 H2 ⟨h1, h2, h3⟩ k
    exact ⟨k _ _ _ h1 (by decide), k _ _ _ h2 (by decide), k _ _ _ h3 (by decide)⟩
  · exact upd_new hit hl'
  · exact upd_new hit hP'
theorem src_e (hg : 0 < gid ∧ gid < 50) (es : List ERow) (hl : H l = some (⟨61, 0, []⟩, .list vs)) (hlen : es.length = vs.length) (hP : DdAt dd nm more H) (hi : ∀ i x H', vs[i]? = some x → DdAt dd nm more H' → eItem es gid i x H') :
    ∀ A' H', Rm A' 1 → Frame gid H H' → IterOk nf c A' H' (.ref l) (fun it H'' => ∃ Inv, Src c 1 gid 60 it es.length (eItem es gid) Inv ∧ Inv 0 H'' ∧ Frame 60 H' H'') := by
  intro A' H' rm f
  have hl' := f _ _ _ hl (by show 61 ≠ gid; omega) (by decide)
  have hP' := f _ _ _ hP (by show 62 ≠ gid; omega) (by decide)
  refine (iter_list ⟨60, 0, []⟩ hl').mono fun it H2 ⟨hit, e⟩ => ?_
  subst e
  have hS := (src_list (c := c) (k := 1) (gid := gid) (sid := 60) (it := it) (l := l) (vs := vs) (t := ⟨61, 0, []⟩) (by show 61 ≠ gid; omega) (by decide) (by omega) (by decide) (by decide) (DdAt dd nm more) (fun H1 H2 h k => k _ _ _ h (by show 62 ≠ gid; omega) (by decide)) (fun H1 H2 h k => k _ _ _ h (by decide) (by decide)))
  have hS2 := hS.item (item' := eItem es gid) fun i x H1 z => hi i x H1 z.1 z.2
  rw [← hlen] at hS2
  refine ⟨_, hS2, ⟨upd_same, ?_, ?_⟩, Frame.new hit⟩
  · exact upd_new hit hl'
  · exact upd_new hit hP'
end
section
variable {c : Cx} {A : Around} {H H' : AHeap} {gid : Nat} {dir : Bool} {C CN CE D Cg : Addr} {loc : Loc} {mm : List (Str × AV)} {g : GC} {m : LM} {E : AV → LM → AHeap → Prop}
variable {sa dn de dw : Addr} {x : Int} {n : List (Int × List (Str × Int))} {e : List ((Int × Int) × List (Str × Int))} {w : List (Str × Int)} {k a b more : Int} {nm : Str} {L f : Addr} {cdv : Value}
abbrev eDe (L f : Addr) (cdv : Value) : Env := envOf "_law_deed" (fscope sDe) L f cdv
/-- bounds of the law's own dicts -/
theorem DSt.bounds (h : DSt gid dir C CN loc mm g sa dn de dw x n e w H) : n.length ≤ 5 ∧ e.length ≤ 25 ∧ (∀ k old, look n k = some old → old.length ≤ 3) ∧ (∀ k old, look e k = some old → old.length ≤ 3) :=
  ⟨h.r.nn h.gr.wf, h.r.en h.gr.wf h.nd, fun k old z => (h.gr.wf.smN k old (by rw [h.r.n]; exact z)).length, fun k old z => (h.gr.wf.smE k old (by rw [h.r.e]; exact z)).length⟩
def WX (nm : Str) : Prop := nm = ("w" : Str) ∨ nm = ("x" : Str)
theorem deed0 (hF : LawFns c) (hO : GOps c dir C CN CE D) (hG : LawG c CE D Cg) (rm : Rm A 5) (hg : 0 < gid ∧ gid < 50) (hw : WX nm) (ha : 0 ≤ a ∧ a < 5) (h : DSt gid dir C CN loc mm g sa dn de dw x n e w H) (hm : DNm m (loc (tX gid)) sa dn de dw dir k a b more nm)
    {Q : AFl → LM → AHeap → Prop} (q : ∀ m' H', DPost gid dir C CN loc sa dn de dw H H' → Q .next m' H') : AS true c A (eDe L f cdv) m H (ifThen iD0) Q E := by
  obtain ⟨fA, hAm, hAk, hAc⟩ := hO.addN
  refine as_cons (a1_expr (ae_meth (names := []) (pe_name (by exact hm.gr)) h.gr.x h.gr.d hAm (h.gr.att.other _ (by decide)) hAk (al_cons (ae_list ⟨61, 0, []⟩ (al_cons (ae_tuple (al_cons (ae_pe (v := .int a) (pe_name (by exact hm.av)) (al_cons (ae_dict1 ⟨62, 0, []⟩ (k := nm) (v := .int more) (fun _ => pe_name (by exact hm.name)) (fun _ => pe_name (by exact hm.mr)) fun dd hdd => ?_))))))))))
  refine al_nil ⟨by simp, al_nil ⟨by simp, fun l hl => ?_⟩⟩
  have f1 : Frame 62 H (upd H dd (⟨62, 0, []⟩, .dS [(nm, .int more)])) := Frame.new hdd
  have f2 : Frame 61 (upd H dd (⟨62, 0, []⟩, .dS [(nm, .int more)])) (upd (upd H dd (⟨62, 0, []⟩, .dS [(nm, .int more)])) l (⟨61, 0, []⟩, .list [.tup [.int a, .ref dd]])) := Frame.new hl
  have h2 := (h.junk f1 (by decide) hg).junk f2 (by decide) hg
  have hP : DdAt dd nm more (upd (upd H dd (⟨62, 0, []⟩, .dS [(nm, .int more)])) l (⟨61, 0, []⟩, .list [.tup [.int a, .ref dd]])) := upd_new hl upd_same
  have hl2 : upd (upd H dd (⟨62, 0, []⟩, .dS [(nm, .int more)])) l (⟨61, 0, []⟩, .list [.tup [.int a, .ref dd]]) l = some (⟨61, 0, []⟩, .list [.tup [.int a, .ref dd]]) := upd_same
  have fd2 : FrD gid H _ := (f1.fd60 (gid := gid) (by decide) (by decide)).trans (f2.fd60 (gid := gid) (by decide) (by decide))
  generalize upd (upd H dd (⟨62, 0, []⟩, .dS [(nm, .int more)])) l (⟨61, 0, []⟩, .list [.tup [.int a, .ref dd]]) = H2 at h2 hP hl2 fd2 ⊢
  refine al_nil ⟨[], kw_nil, rfl, ?_⟩
  have hnmS : Small ([(nm, more)] : List (Str × Int)) := ⟨by simp, fun y hy => by
    rcases List.mem_cons.mp hy with rfl | hy
    · exact hw.elim .inl fun z => .inr (.inl z)
    · cases hy⟩
  refine CallOk.mono (hAc true A H2 gid 0 60 loc mm g [] [(a, some [(nm, more)])] (.ref l) (rm.less (by omega)) h2.gr (.inl rfl) (fun e he => by rcases List.mem_cons.mp he with rfl | he; exact ⟨ha.1, ha.2, hnmS⟩; cases he) (by omega) (by show gid + 100 ≠ 60; omega) (by omega) (by show gid ≠ 0; omega)
    (src_n hg _ hl2 rfl hP fun i x H' hx hd => ?_)) ?_ fun _ _ z => z.elim
  · cases i with
    | zero => cases hx; exact ⟨a, some [(nm, more)], rfl, dd, _, rfl, hd, by show 62 ≠ gid; omega, by decide, by show 62 ≠ gid + 2000; omega⟩
    | succ i => cases hx
  rintro r H3 ⟨rfl, loc', hg3, hs3, f3⟩
  have hd3 : DAt dn de dw tLn tLe tLw n e w H3 := ⟨f3 _ _ _ h2.d.n (by show 50 ≠ gid; omega) (by decide) (by decide), f3 _ _ _ h2.d.e (by show 50 ≠ gid; omega) (by decide) (by decide), f3 _ _ _ h2.d.w (by show 50 ≠ gid; omega) (by decide) (by decide)⟩
  have hs : H3 sa = some (tLs, .list [.int x]) := f3 _ _ _ h2.s (by show 52 ≠ gid; omega) (by decide) (by decide)
  have fd3 : FrD gid H H3 := fd2.trans fun b t o hb n1 n2 n3 n4 n5 => f3 b t o hb n1 (fun z => n3 (by rw [z]; decide)) n2
  obtain ⟨b1, b2, b3, b4⟩ := h.bounds
  refine ⟨rfl, as_cons (a1_expr (ae_put_n hF hG (rm.less (by omega)) hg hd3 (by omega) (fun k old z => by have := b3 k old z; omega) (k := a) (more := more) (nm := nm) (by exact hm.n) (pe_name (by exact hm.av)) (pe_name (by exact hm.name)) (pe_name (by exact hm.mr)) fun hd4 f4 => ⟨rfl, as_nil (q _ _ ?_)⟩))⟩
  exact ⟨loc', mm, _, x, _, _, _, ⟨hg3.frame f4 (by omega) (by show gid + 100 ≠ 50; omega) (by show gid ≠ 0; omega), hd4, f4 _ _ _ hs (by decide) (by decide), h.r.d0, h.nd⟩, hs3, fd3.trans (f4.fd50 (.inl rfl))⟩
def BN {κ : Type} [DecidableEq κ] (l : List (κ × List (Str × Int))) (N M : Nat) : Prop := l.length ≤ N ∧ ∀ k old, look l k = some old → old.length ≤ M
theorem put_len {κ α : Type} [DecidableEq κ] (l : List (κ × α)) (k : κ) (a : α) : (put l k a).length ≤ l.length + 1 := by
  cases q : look l k with
  | none => rw [put_new _ q]; simp
  | some o =>
    have := congrArg List.length (put_keys_old a (l := l) (k := k) (by rw [q]; exact fun z => nomatch z))
    rw [List.length_map, List.length_map] at this
    omega
theorem BN.put {κ : Type} [DecidableEq κ] {l : List (κ × List (Str × Int))} {N M : Nat} (h : BN l N M) (k : κ) (nm : Str) (v : Int) : BN (Nx.put l k (Nx.put ((look l k).getD []) nm v)) (N + 1) (M + 1) := by
  refine ⟨?_, fun j old hj => ?_⟩
  · have := put_len l k (Nx.put ((look l k).getD []) nm v)
    have := h.1
    omega
  · by_cases e : j = k
    · subst e
      rw [look_put_same] at hj
      cases hj
      have h1 := put_len ((look l j).getD []) nm v
      have h2 : ((look l j).getD []).length ≤ M := by
        cases q : look l j with
        | none => exact Nat.zero_le _
        | some o => exact h.2 _ _ q
      omega
    · rw [look_put_ne _ _ e] at hj
      have := h.2 _ _ hj
      omega
theorem BN.lt {κ : Type} [DecidableEq κ] {l : List (κ × List (Str × Int))} {N M : Nat} (h : BN l N M) (hN : N < 1000) (hM : M < 1000) : l.length < 1000 ∧ ∀ k old, look l k = some old → old.length < 1000 := ⟨Nat.lt_of_le_of_lt h.1 hN, fun k old z => Nat.lt_of_le_of_lt (h.2 k old z) hM⟩
theorem DSt.bn (h : DSt gid dir C CN loc mm g sa dn de dw x n e w H) : BN n 5 3 ∧ BN e 25 3 := ⟨⟨h.bounds.1, h.bounds.2.2.1⟩, h.bounds.2.1, h.bounds.2.2.2⟩
theorem WX.small (hw : WX nm) (more : Int) : Small ([(nm, more)] : List (Str × Int)) := ⟨by simp, fun y hy => by
  rcases List.mem_cons.mp hy with rfl | hy
  · exact hw.elim .inl fun z => .inr (.inl z)
  · cases hy⟩
/-- behind a call that took a list -/
theorem DAt.f2 {H2 H3 : AHeap} (h : DAt dn de dw tLn tLe tLw n e w H2) (hg : 0 < gid ∧ gid < 50) (f : Frame2 gid 60 H2 H3) : DAt dn de dw tLn tLe tLw n e w H3 := ⟨f _ _ _ h.n (by show 50 ≠ gid; omega) (by decide) (by decide), f _ _ _ h.e (by show 50 ≠ gid; omega) (by decide) (by decide), f _ _ _ h.w (by show 50 ≠ gid; omega) (by decide) (by decide)⟩
theorem Frame2.fd {H2 H3 : AHeap} (f : Frame2 gid 60 H2 H3) : FrD gid H2 H3 := fun b t o hb n1 n2 n3 _ _ => f b t o hb n1 (fun z => n3 (by rw [z]; decide)) n2
theorem GAt.f50 {H2 H3 : AHeap} (h : GAt gid dir C CN loc mm g H2) (hg : 0 < gid ∧ gid < 50) (f : Frame 50 H2 H3) : GAt gid dir C CN loc mm g H3 := h.frame f (by omega) (by show gid + 100 ≠ 50; omega) (by show gid ≠ 0; omega)
theorem deed1 (hF : LawFns c) (hO : GOps c dir C CN CE D) (hG : LawG c CE D Cg) (rm : Rm A 5) (hg : 0 < gid ∧ gid < 50) (hw : WX nm) (ha : 0 ≤ a ∧ a < 5) (hb : 0 ≤ b ∧ b < 5) (h : DSt gid dir C CN loc mm g sa dn de dw x n e w H) (hm : DNm m (loc (tX gid)) sa dn de dw dir k a b more nm)
    {Q : AFl → LM → AHeap → Prop} (q : ∀ m' H', DPost gid dir C CN loc sa dn de dw H H' → Q .next m' H') : AS true c A (eDe L f cdv) m H (ifThen iD1) Q E := by
  obtain ⟨fA, hAm, hAk, hAc⟩ := hO.addN
  refine as_cons (a1_expr (ae_meth (names := ["y"]) (pe_name (by exact hm.gr)) h.gr.x h.gr.d hAm (h.gr.att.other _ (by decide)) hAk (al_cons (ae_list ⟨61, 0, []⟩ (al_cons (ae_pe (v := .int a) (pe_name (by exact hm.av)) (al_cons (ae_tuple (al_cons (ae_pe (v := .int b) (pe_name (by exact hm.bv)) (al_cons (ae_dict1 ⟨62, 0, []⟩ (k := nm) (v := .int more) (fun _ => pe_name (by exact hm.name)) (fun _ => pe_name (by exact hm.mr)) fun dd hdd => ?_))))))))))))
  refine al_nil ⟨by simp, al_nil ⟨by simp, fun l hl => ?_⟩⟩
  have f1 : Frame 62 H (upd H dd (⟨62, 0, []⟩, .dS [(nm, .int more)])) := Frame.new hdd
  have f2 : Frame 61 (upd H dd (⟨62, 0, []⟩, .dS [(nm, .int more)])) (upd (upd H dd (⟨62, 0, []⟩, .dS [(nm, .int more)])) l (⟨61, 0, []⟩, .list [.int a, .tup [.int b, .ref dd]])) := Frame.new hl
  have h2 := (h.junk f1 (by decide) hg).junk f2 (by decide) hg
  have hP : DdAt dd nm more (upd (upd H dd (⟨62, 0, []⟩, .dS [(nm, .int more)])) l (⟨61, 0, []⟩, .list [.int a, .tup [.int b, .ref dd]])) := upd_new hl upd_same
  have hl2 : upd (upd H dd (⟨62, 0, []⟩, .dS [(nm, .int more)])) l (⟨61, 0, []⟩, .list [.int a, .tup [.int b, .ref dd]]) l = some (⟨61, 0, []⟩, .list [.int a, .tup [.int b, .ref dd]]) := upd_same
  have fd2 : FrD gid H _ := (f1.fd60 (gid := gid) (by decide) (by decide)).trans (f2.fd60 (gid := gid) (by decide) (by decide))
  generalize upd (upd H dd (⟨62, 0, []⟩, .dS [(nm, .int more)])) l (⟨61, 0, []⟩, .list [.int a, .tup [.int b, .ref dd]]) = H2 at h2 hP hl2 fd2 ⊢
  refine al_nil ⟨[.int 7], kw_cons pe_int kw_nil, rfl, ?_⟩
  refine CallOk.mono (hAc true A H2 gid 0 60 loc mm g [("y", 7)] [(a, none), (b, some [(nm, more)])] (.ref l) (rm.less (by omega)) h2.gr (.inr ⟨_, _, rfl, .inr (.inr rfl)⟩) (fun e he => by
      rcases List.mem_cons.mp he with rfl | he
      · exact ⟨ha.1, ha.2, Small.nil⟩
      rcases List.mem_cons.mp he with rfl | he
      · exact ⟨hb.1, hb.2, hw.small more⟩
      · cases he) (by omega) (by show gid + 100 ≠ 60; omega) (by omega) (by show gid ≠ 0; omega)
    (src_n hg _ hl2 rfl hP fun i x H' hx hd => ?_)) ?_ fun _ _ z => z.elim
  · cases i with
    | zero => cases hx; exact ⟨a, none, rfl, rfl⟩
    | succ i => cases i with
      | zero => cases hx; exact ⟨b, some [(nm, more)], rfl, dd, _, rfl, hd, by show 62 ≠ gid; omega, by decide, by show 62 ≠ gid + 2000; omega⟩
      | succ i => cases hx
  rintro r H3 ⟨rfl, loc', hg3, hs3, f3⟩
  have hd3 := h2.d.f2 hg f3
  have hs : H3 sa = some (tLs, .list [.int x]) := f3 _ _ _ h2.s (by show 52 ≠ gid; omega) (by decide) (by decide)
  have fd3 : FrD gid H H3 := fd2.trans f3.fd
  have b0 := h.bn.1
  have b1 := b0.put a "y" 7
  have b2 := b1.put b "y" 7
  refine ⟨rfl, as_cons (a1_expr (ae_put_n hF hG (rm.less (by omega)) hg hd3 (b0.lt (by decide) (by decide)).1 (b0.lt (by decide) (by decide)).2 (k := a) (more := 7) (nm := "y") (by exact hm.n) (pe_name (by exact hm.av)) pe_str pe_int fun hd4 f4 => ⟨rfl, ?_⟩))⟩
  refine as_cons (a1_expr (ae_put_n hF hG (rm.less (by omega)) hg hd4 (b1.lt (by decide) (by decide)).1 (b1.lt (by decide) (by decide)).2 (k := b) (more := 7) (nm := "y") (by exact hm.n) (pe_name (by exact hm.bv)) pe_str pe_int fun hd5 f5 => ⟨rfl, ?_⟩))
  refine as_cons (a1_expr (ae_put_n hF hG (rm.less (by omega)) hg hd5 (b2.lt (by decide) (by decide)).1 (b2.lt (by decide) (by decide)).2 (k := b) (more := more) (nm := nm) (by exact hm.n) (pe_name (by exact hm.bv)) (pe_name (by exact hm.name)) (pe_name (by exact hm.mr)) fun hd6 f6 => ⟨rfl, as_nil (q _ _ ?_)⟩))
  have hny : nm ≠ ("y" : Str) := by rcases hw with rfl | rfl <;> decide
  have f46 := (f4.trans f5).trans f6
  exact ⟨loc', mm, _, x, _, _, _, ⟨hg3.f50 hg f46, hd6, f46 _ _ _ hs (by decide) (by decide), h.r.d1 hny, h.nd⟩, hs3, fd3.trans (f46.fd50 (.inl rfl))⟩
theorem deed2 (hO : GOps c dir C CN CE D) (hg : 0 < gid ∧ gid < 50) (hw : WX nm) (h : DSt gid dir C CN loc mm g sa dn de dw x n e w H) (hm : DNm m (loc (tX gid)) sa dn de dw dir k a b more nm)
    {Q : AFl → LM → AHeap → Prop} (q : ∀ m' H', DPost gid dir C CN loc sa dn de dw H H' → Q .next m' H') : AS true c A (eDe L f cdv) m H (ifThen iD2) Q E := by
  have hw0 : Small w := by have := h.gr.wf.smW; rw [h.r.w] at this; exact this
  have hwl := hw0.length
  refine as_cons (a1_setE (ae_pe (v := .int more) (pe_name (by exact hm.mr)) ⟨.ref (loc (tG gid)), .str nm, pe_own hO.k (pe_name (by exact hm.gr)) h.gr.x h.gr.d h.gr.att.g, pe_name (by exact hm.name), SetOk.mono (set_dS h.gr.w (by rw [nums_length, h.r.w]; omega)) ?_⟩))
  rintro H1 rfl
  rw [put_nums, h.r.w]
  obtain ⟨hg1, f1⟩ := h.gr.setWhole (hw0.put (hw.elim .inl fun z => .inr (.inl z)) more)
  have hd1 : DAt dn de dw tLn tLe tLw n e w _ := ⟨f1 _ _ _ h.d.n (by show 50 ≠ gid; omega) (by decide), f1 _ _ _ h.d.e (by show 50 ≠ gid; omega) (by decide), f1 _ _ _ h.d.w (by show 50 ≠ gid; omega) (by decide)⟩
  have hs1 := f1 _ _ _ h.s (by show 52 ≠ gid; omega) (by decide)
  generalize upd H (loc (tG gid)) (tG gid, .dS (nums (put w nm more))) = H1 at hg1 f1 hd1 hs1 ⊢
  refine as_cons (a1_setE (ae_pe (v := .int more) (pe_name (by exact hm.mr)) ⟨.ref dw, .str nm, pe_name (by exact hm.w), pe_name (by exact hm.name), SetOk.mono (set_dS hd1.w (by rw [nums_length]; omega)) ?_⟩))
  rintro H2 rfl
  rw [put_nums]
  have f2 : Frame 50 H1 (upd H1 dw (tLw, .dS (nums (put w nm more)))) := Frame.upd fun t o z => by rw [hd1.w] at z; cases z; rfl
  refine as_nil (q _ _ ⟨loc, mm, _, x, n, e, _, ⟨hg1.f50 hg f2, ⟨upd_of (ne_tag hd1.n hd1.w (by decide)) hd1.n, upd_of (ne_tag hd1.e hd1.w (by decide)) hd1.e, upd_same⟩, f2 _ _ _ hs1 (by decide) (by decide), h.r.d2 _, h.nd⟩, Same.refl _ _, f1.fd.trans (f2.fd50 (.inl rfl))⟩)
end
end Nx
end
section
set_option autoImplicit false
namespace Nx
abbrev fD : Stmt := pick (ifElse iD2) 1
section
variable {c : Cx} {A : Around} {H H' : AHeap} {gid : Nat} {dir : Bool} {C CN CE D Cg : Addr} {loc : Loc} {mm : List (Str × AV)} {g : GC} {m : LM} {E : AV → LM → AHeap → Prop}
variable {sa dn de dw : Addr} {x : Int} {n : List (Int × List (Str × Int))} {e : List ((Int × Int) × List (Str × Int))} {w : List (Str × Int)} {k a b more : Int} {nm : Str} {L f : Addr} {cdv : Value}
/-- nodes[v] = nodes.get(v, {}) -/
theorem keep_node {nf : Bool} (rm : Rm A 2) {v : Int} (hd : DAt dn de dw tLn tLe tLw n e w H) (hn : n.length < 1000) (hmn : m "nodes" = some (.ref dn)) (hmv : m "v" = some (.int v)) {Q : AFl → LM → AHeap → Prop}
    (q : ∀ H', DAt dn de dw tLn tLe tLw (put n v ((look n v).getD [])) e w H' → Frame 50 H H' → Q .next m H') : A1 nf c A (eDe L f cdv) m H (pick (forBody fD) 0) Q E := by
  refine a1_setE (ae_bmeth F.slot_dict_get F.plainAttrs_dict F.type_dict_get (a := .ref dn) (pe_name (by exact hmn)) ((rowI c).pl hd.n) (al_cons (ae_pe (v := .int v) (pe_name (by exact hmv)) (al_cons (ae_dict0 ⟨64, 0, []⟩ (o := .dS []) rfl fun d0 h0 => al_nil ?_)))))
  have hne : ∀ {y t o}, H y = some (t, o) → y ≠ d0 := fun {y t o} h e => by rw [e, h0] at h; cases h
  have hd1 : upd H d0 (⟨64, 0, []⟩, .dS []) dn = some (tLn, .dI (fdR n)) := upd_of (hne hd.n) hd.n
  refine CallOk.mono ((rowI c).get rm.unit hd1) ?_ fun _ _ z => z
  rintro r H1 ⟨rfl, rfl⟩
  refine ⟨.ref dn, .int v, pe_name (by exact hmn), pe_name (by exact hmv), ?_⟩
  rw [look_fdR]
  cases hk : look n v with
  | none =>
    refine SetOk.still (l := []) upd_same ?_
    rw [drop_upd h0]
    refine SetOk.mono (set_dI hd.n (by rw [fdR_length]; exact hn)) ?_
    rintro H2 rfl
    rw [put_fdR]
    refine q _ ⟨?_, upd_of (ne_tag hd.e hd.n (by decide)) hd.e, upd_of (ne_tag hd.w hd.n (by decide)) hd.w⟩ (Frame.upd fun t o z => by rw [hd.n] at z; cases z; rfl)
    rw [hk]; exact upd_same
  | some old =>
    refine SetOk.mono (set_dI hd1 (by rw [fdR_length]; exact hn)) ?_
    rintro H2 rfl
    show Q .next m (upd _ dn (tLn, .dI (put (fdR n) v (.fd old))))
    rw [put_fdR]
    refine q _ ⟨?_, upd_of (ne_tag hd.e hd.n (by decide)) (upd_of (hne hd.e) hd.e), upd_of (ne_tag hd.w hd.n (by decide)) (upd_of (hne hd.w) hd.w)⟩ ((Frame.new h0).trans (Frame.upd fun t o z => by rw [hd1] at z; cases z; rfl))
    rw [hk]; exact upd_same
theorem cmp_eq_str {a b : Str} : CmpIs c A H .Eq (.str a) (.str b) (a == b) := fun _ _ _ _ ok ⟨_, h1⟩ ⟨_, h2⟩ => by subst h1 h2; exact PyProof.Rows.eq_str (fin0 (Post.refl ok) VR.bool')
theorem deed_end (hF : LawFns c) (hG : LawG c CE D Cg) (rm : Rm A 5) (hg : 0 < gid ∧ gid < 50) (hb0 : BN n 5 3) (hb1 : BN e 25 3) (hnd : (e.map (·.1)).Nodup) (hr : Rel g n e w) (hm : DNm m (loc (tX gid)) sa dn de dw dir k a b more nm) {loc3 : Loc} {g3 : GC} {H3 : AHeap} (he : g3 = ((g.node a).node b).edge dir a b [(nm, more)])
    (hg3 : GAt gid dir C CN loc3 mm g3 H3) (hd3 : DAt dn de dw tLn tLe tLw n e w H3) (hs3 : H3 sa = some (tLs, .list [.int x])) (sm : Same gid loc loc3) (fd3 : FrD gid H H3)
    {Q : AFl → LM → AHeap → Prop} (q : ∀ m' H', DPost gid dir C CN loc sa dn de dw H H' → Q .next m' H') : AS true c A (eDe L f cdv) m H3 [fD, pick (ifElse iD2) 2] Q E := by
  have hl0 : n.length ≤ 5 := hb0.1
  have hl1 := put_len n a ((look n a).getD [])
  refine as_cons (a1_fortup 63 (vs := [.int a, .int b]) rm.h (fun i m' H' => DAt dn de dw tLn tLe tLw (match i with | 0 => n | 1 => put n a ((look n a).getD []) | _ => put (put n a ((look n a).getD [])) b ((look (put n a ((look n a).getD [])) b).getD [])) e w H' ∧ GAt gid dir C CN loc3 mm g3 H' ∧ H' sa = some (tLs, .list [.int x]) ∧ FrD gid H H' ∧ DNm m' (loc (tX gid)) sa dn de dw dir k a b more nm)
    (pe_tuple (pl_cons (pe_name (by exact hm.av)) (pl_cons (pe_name (by exact hm.bv)) pl_nil)) (by simp)) ⟨hd3, hg3, hs3, fd3, hm⟩ ?_ ?_ ?_)
  · rintro i m' H1 H2 ⟨z1, z2, z3, z4, z5⟩ f
    exact ⟨z1.fr f (by decide) law5n law5e law5w, z2.frame f (by omega) (by show gid + 100 ≠ 63; omega) (by show gid ≠ 0; omega), f _ _ _ z3 (by decide) (by decide), z4.trans (f.fd60 (by decide) (by decide)), z5⟩
  · rintro i v m1 H1 hv ⟨z1, z2, z3, z4, z5⟩
    have z6 : ∀ v, DNm (setm m1 "v" v) (loc (tX gid)) sa dn de dw dir k a b more nm := fun v => ⟨z5.s, z5.gr, z5.di, z5.n, z5.e, z5.w, z5.kd, z5.av, z5.bv, z5.mr, z5.name, z5.pair⟩
    have it : ∀ {H2 : AHeap}, Frame 50 H1 H2 → ∀ y o, H1 y = some (⟨63, 0, []⟩, o) → H2 y = some (⟨63, 0, []⟩, o) := fun f y o h => f _ _ _ h (by decide) (by decide)
    cases i with
    | zero =>
      cases hv
      exact as_cons (keep_node (rm.less (by omega)) z1 (by show n.length < 1000; omega) (by exact z5.n) rfl fun H2 y1 f2 => as_nil ⟨⟨y1, z2.f50 hg f2, f2 _ _ _ z3 (by decide) (by decide), z4.trans (f2.fd50 (.inl rfl)), z6 _⟩, it f2⟩)
    | succ i => cases i with
      | zero =>
        cases hv
        exact as_cons (keep_node (rm.less (by omega)) z1 (by show (put n a _).length < 1000; omega) (by exact z5.n) rfl fun H2 y1 f2 => as_nil ⟨⟨y1, z2.f50 hg f2, f2 _ _ _ z3 (by decide) (by decide), z4.trans (f2.fd50 (.inl rfl)), z6 _⟩, it f2⟩)
      | succ i => cases hv
  · rintro m1 H1 ⟨z1, z2, z3, z4, z5⟩
    have hlt := hb1.lt (by decide) (by decide)
    refine as_cons (a1_expr (ae_put_e hF hG (rm.less (by omega)) hg z1 hlt.1 hlt.2 (k := ek dir a b) (more := more) (nm := nm) (by exact z5.e) (pe_name (by exact z5.pair)) (pe_name (by exact z5.name)) (pe_name (by exact z5.mr)) fun hd4 f4 => ⟨rfl, as_nil (q _ _ ?_)⟩))
    exact ⟨loc3, mm, g3, x, _, _, w, ⟨z2.f50 hg f4, hd4, f4 _ _ _ z3 (by decide) (by decide), by rw [he]; exact hr.d3, put_nodup _ _ hnd⟩, sm, z4.trans (f4.fd50 (.inl rfl))⟩
theorem deed3 (hF : LawFns c) (hO : GOps c dir C CN CE D) (hG : LawG c CE D Cg) (rm : Rm A 5) (hg : 0 < gid ∧ gid < 50) (hw : WX nm) (ha : 0 ≤ a ∧ a < 5) (hb : 0 ≤ b ∧ b < 5) (h : DSt gid dir C CN loc mm g sa dn de dw x n e w H) (hm : DNm m (loc (tX gid)) sa dn de dw dir k a b more nm)
    {Q : AFl → LM → AHeap → Prop} (q : ∀ m' H', DPost gid dir C CN loc sa dn de dw H H' → Q .next m' H') : AS true c A (eDe L f cdv) m H (ifElse iD2) Q E := by
  have hx0 : gid ≠ xo := by show gid ≠ 0; omega
  refine as_cons (a1_if (b := k == 3) (pb_cmp (pe_name (by exact hm.kd)) pe_int cmp_eq_int) ?_)
  by_cases hk : (k == 3) = true
  · rw [if_pos hk]
    obtain ⟨fA, hAm, hAk, hAc⟩ := hO.addE
    refine as_cons (a1_expr (ae_meth (names := []) (pe_name (by exact hm.gr)) h.gr.x h.gr.d hAm (h.gr.att.other _ (by decide)) hAk (al_cons (ae_list ⟨61, 0, []⟩ (al_cons (ae_tuple (al_cons (ae_pe (v := .int a) (pe_name (by exact hm.av)) (al_cons (ae_pe (v := .int b) (pe_name (by exact hm.bv)) (al_cons (ae_dict1 ⟨62, 0, []⟩ (k := nm) (v := .int more) (fun _ => pe_name (by exact hm.name)) (fun _ => pe_name (by exact hm.mr)) fun dd hdd => ?_))))))))))))
    refine al_nil ⟨by simp, al_nil ⟨by simp, fun l hl => ?_⟩⟩
    have f1 : Frame 62 H (upd H dd (⟨62, 0, []⟩, .dS [(nm, .int more)])) := Frame.new hdd
    have f2 : Frame 61 (upd H dd (⟨62, 0, []⟩, .dS [(nm, .int more)])) (upd (upd H dd (⟨62, 0, []⟩, .dS [(nm, .int more)])) l (⟨61, 0, []⟩, .list [.tup [.int a, .int b, .ref dd]])) := Frame.new hl
    have h2 := (h.junk f1 (by decide) hg).junk f2 (by decide) hg
    have hP : DdAt dd nm more (upd (upd H dd (⟨62, 0, []⟩, .dS [(nm, .int more)])) l (⟨61, 0, []⟩, .list [.tup [.int a, .int b, .ref dd]])) := upd_new hl upd_same
    have hl2 : upd (upd H dd (⟨62, 0, []⟩, .dS [(nm, .int more)])) l (⟨61, 0, []⟩, .list [.tup [.int a, .int b, .ref dd]]) l = some (⟨61, 0, []⟩, .list [.tup [.int a, .int b, .ref dd]]) := upd_same
    have fd2 : FrD gid H _ := (f1.fd60 (gid := gid) (by decide) (by decide)).trans (f2.fd60 (gid := gid) (by decide) (by decide))
    generalize upd (upd H dd (⟨62, 0, []⟩, .dS [(nm, .int more)])) l (⟨61, 0, []⟩, .list [.tup [.int a, .int b, .ref dd]]) = H2 at h2 hP hl2 fd2 ⊢
    refine al_nil ⟨[], kw_nil, rfl, ?_⟩
    refine CallOk.mono (hAc true A H2 gid 0 60 loc mm g [] [(a, b, [(nm, more)])] (.ref l) (rm.less (by omega)) h2.gr (.inl rfl) (fun e he => by
        rcases List.mem_cons.mp he with rfl | he
        · exact ⟨ha.1, ha.2, hb.1, hb.2, hw.small more⟩
        · cases he) (by omega) (by show gid + 100 ≠ 60; omega) (by omega) hx0
      (src_e hg _ hl2 rfl hP fun i x H' hx hd => ?_)) ?_ fun _ _ z => z.elim
    · cases i with
      | zero => cases hx; exact ⟨a, b, [(nm, more)], dd, _, rfl, rfl, hd, by show 62 ≠ gid; omega, by decide⟩
      | succ i => cases hx
    rintro r H3 ⟨rfl, loc', hg3, hs3, f3⟩
    have hs : H3 sa = some (tLs, .list [.int x]) := f3 _ _ _ h2.s (by show 52 ≠ gid; omega) (by decide) (by decide)
    exact ⟨rfl, as_nil (deed_end hF hG rm hg h.bn.1 h.bn.2 h.nd h.r hm rfl hg3 (h2.d.f2 hg f3) hs hs3 (fd2.trans f3.fd) q)⟩
  · rw [if_neg hk]
    obtain ⟨fA, hAm, hAk, hAc⟩ := hO.add1
    have call : ∀ (y : Str), y = nm → CallOk true c A H (.ref fA) [.ref (loc (tX gid)), .int a, .int b] (nums [(y, more)]) (fun r H' => r = .none ∧ AS true c A (eDe L f cdv) m H' [fD, pick (ifElse iD2) 2] Q E) (fun _ _ => False) := by
      rintro y rfl
      refine CallOk.mono (hAc true A H gid loc mm g a b [(y, more)] (rm.less (by omega)) h.gr ha.1 ha.2 hb.1 hb.2 (.inr ⟨y, more, rfl, hw.elim .inl fun z => .inr (.inl z)⟩)) ?_ fun _ _ z => z.elim
      rintro r H3 ⟨rfl, loc', hg3, hs3, f3⟩
      exact ⟨rfl, deed_end hF hG rm hg h.bn.1 h.bn.2 h.nd h.r hm rfl hg3 ⟨f3 _ _ _ h.d.n (by show 50 ≠ gid; omega) (by decide), f3 _ _ _ h.d.e (by show 50 ≠ gid; omega) (by decide), f3 _ _ _ h.d.w (by show 50 ≠ gid; omega) (by decide)⟩ (f3 _ _ _ h.s (by show 52 ≠ gid; omega) (by decide)) hs3 f3.fd q⟩
    rcases hw with rfl | rfl
    · refine as_cons (a1_if (b := true) (pb_cmp (pe_name (by exact hm.name)) pe_str (cmp_eq_str (a := "w") (b := "w"))) ?_)
      · refine as_cons (a1_expr (ae_meth (names := ["w"]) (pe_name (by exact hm.gr)) h.gr.x h.gr.d hAm (h.gr.att.other _ (by decide)) hAk (al_cons (ae_pe (v := .int a) (pe_name (by exact hm.av)) (al_cons (ae_pe (v := .int b) (pe_name (by exact hm.bv)) (al_nil ⟨[.int more], kw_cons (pe_name (by exact hm.mr)) kw_nil, rfl, ?_⟩)))))))
        exact (call "w" rfl).mono (fun r H3 z => ⟨z.1, as_nil (as_nil z.2)⟩) fun _ _ z => z.elim
    · refine as_cons (a1_if (b := false) (pb_cmp (pe_name (by exact hm.name)) pe_str (cmp_eq_str (a := "x") (b := "w"))) ?_)
      · refine as_cons (a1_expr (ae_meth (names := ["x"]) (pe_name (by exact hm.gr)) h.gr.x h.gr.d hAm (h.gr.att.other _ (by decide)) hAk (al_cons (ae_pe (v := .int a) (pe_name (by exact hm.av)) (al_cons (ae_pe (v := .int b) (pe_name (by exact hm.bv)) (al_nil ⟨[.int more], kw_cons (pe_name (by exact hm.mr)) kw_nil, rfl, ?_⟩)))))))
        exact (call "x" rfl).mono (fun r H3 z => ⟨z.1, as_nil (as_nil z.2)⟩) fun _ _ z => z.elim
theorem deed_ok {fd : Addr} (hf : FnIs c fd "_law_deed" (fpars sDe) (fbody sDe) (fscope sDe) .none .none cdv) (hF : LawFns c) (hO : GOps c dir C CN CE D) (hG : LawG c CE D Cg) (rm : Rm A 6) (hg : 0 < gid ∧ gid < 50) (h : DSt gid dir C CN loc mm g sa dn de dw x n e w H) :
    CallOk true c A H (.ref fd) [.ref sa, .ref (loc (tX gid)), .bool dir, .ref dn, .ref de, .ref dw] [] (fun r H' => r = .none ∧ DPost gid dir C CN loc sa dn de dw H H') (fun _ _ => False) := by
  refine call_fn (P := fun ab H' => ab = ([("s", .ref sa), ("graph", .ref (loc (tX gid))), ("is_directed", .bool dir), ("nodes", .ref dn), ("edges", .ref de), ("whole", .ref dw)] : List (Str × AV)) ∧ H' = H) hf rfl rm.room ?_ ?_ ?_
  · intro name doc pm an ct W s vs kvs ok h1 h2
    cases h2
    cases h1 with | cons r1 h1 => cases h1 with | cons r2 h1 => cases h1 with | cons r3 h1 => cases h1 with | cons r4 h1 => cases h1 with | cons r5 h1 => cases h1 with | cons r6 h1 => cases h1 with | nil =>
    rename_i v1 v2 v3 v4 v5 v6
    exact BindsTo.of_eq (binds := [("s", v1), ("graph", v2), ("is_directed", v3), ("nodes", v4), ("edges", v5), ("whole", v6)]) rfl _ _ _ _ ⟨W, H, _, Post.refl ok, .cons ⟨rfl, r1⟩ (.cons ⟨rfl, r2⟩ (.cons ⟨rfl, r3⟩ (.cons ⟨rfl, r4⟩ (.cons ⟨rfl, r5⟩ (.cons ⟨rfl, r6⟩ .nil))))), rfl, rfl⟩
  · rintro ab H' ⟨rfl, rfl⟩
    rfl
  · rintro L ab H' ⟨rfl, rfl⟩ hL
    have rm' := rm.deeper (envOf "_law_deed" (fscope sDe) L fd cdv)
    refine as_cons (a1_assign_tuple (names := ["kind", "a", "b", "more"]) (.cons (.cons (.cons (.cons .nil)))) (by intro y hy; rcases List.mem_cons.mp hy with rfl | hy; rfl; rcases List.mem_cons.mp hy with rfl | hy; rfl; rcases List.mem_cons.mp hy with rfl | hy; rfl; rcases List.mem_cons.mp hy with rfl | hy; rfl; cases hy)
      (ae_tuple (al_cons (ae_next hF (rm'.less (by omega)) hg rfl h (fun _ => pe_int) (by decide) fun k y1 H1 k0 k5 h1 f1 => ?_))))
    refine al_cons (ae_next hF (rm'.less (by omega)) hg rfl h1 (fun _ => pe_int) (by decide) fun a y2 H2 a0 a5 h2 f2 => ?_)
    refine al_cons (ae_next hF (rm'.less (by omega)) hg rfl h2 (fun _ => pe_int) (by decide) fun b y3 H3 b0 b5 h3 f3 => ?_)
    refine al_cons (ae_next hF (rm'.less (by omega)) hg rfl h3 (fun _ => pe_int) (by decide) fun more y4 H4 m0 m5 h4 f4 => ?_)
    refine al_nil ⟨by simp, [.int k, .int a, .int b, .int more], unp_tup (.inl rm'.h), rfl, ?_⟩
    have f04 := ((f1.trans f2).trans f3).trans f4
    refine as_cons (a1_assignE (ae_sub2 (a := .str "wx") pe_str (ae_next hF (rm'.less (by omega)) hg rfl h4 (fun _ => pe_int) (by decide) fun i y5 H5 i0 i5 h5 f5 => ?_)))
    intro W s u v ok fo r1 r2
    refine tail_wx ok fo r1 r2 (by omega) ?_
    have f05 := f04.trans f5
    have hw : WX (wx i) := by unfold wx; split; exact .inl rfl; exact .inr rfl
    generalize wx i = nm at hw ⊢
    refine as_cons (a1_assign (v := .tup [.int (ek dir a b).1, .int (ek dir a b).2]) (pe_pair hG rm'.h (pe_name rfl) (pe_name rfl) (pe_name rfl) (pe_name rfl) (pe_name rfl) (pe_name rfl) (pe_name rfl)) ?_)
    have q : ∀ H6, DPost gid dir C CN loc sa dn de dw H5 H6 → DPost gid dir C CN loc sa dn de dw H' H6 := fun H6 ⟨l1, l2, l3, l4, l5, l6, l7, z1, z2, z3⟩ => ⟨l1, l2, l3, l4, l5, l6, l7, z1, z2, f05.trans z3⟩
    refine as_cons (a1_if (b := k == 0) (pb_cmp (a := .int k) (pe_name rfl) pe_int cmp_eq_int) ?_)
    split
    · exact deed0 hF hO hG (rm'.less (by omega)) hg hw ⟨a0, a5⟩ h5 ⟨rfl, rfl, rfl, rfl, rfl, rfl, rfl, rfl, rfl, rfl, rfl, rfl⟩ fun m' H6 z => as_nil ⟨rfl, q _ z⟩
    refine as_cons (a1_if (b := k == 1) (pb_cmp (a := .int k) (pe_name rfl) pe_int cmp_eq_int) ?_)
    split
    · exact deed1 hF hO hG (rm'.less (by omega)) hg hw ⟨a0, a5⟩ ⟨b0, b5⟩ h5 ⟨rfl, rfl, rfl, rfl, rfl, rfl, rfl, rfl, rfl, rfl, rfl, rfl⟩ fun m' H6 z => as_nil (as_nil ⟨rfl, q _ z⟩)
    refine as_cons (a1_if (b := k == 2) (pb_cmp (a := .int k) (pe_name rfl) pe_int cmp_eq_int) ?_)
    split
    · exact deed2 hO hg hw h5 ⟨rfl, rfl, rfl, rfl, rfl, rfl, rfl, rfl, rfl, rfl, rfl, rfl⟩ fun m' H6 z => as_nil (as_nil (as_nil ⟨rfl, q _ z⟩))
    · exact deed3 hF hO hG (rm'.less (by omega)) hg hw ⟨a0, a5⟩ ⟨b0, b5⟩ h5 ⟨rfl, rfl, rfl, rfl, rfl, rfl, rfl, rfl, rfl, rfl, rfl, rfl⟩ fun m' H6 z => as_nil (as_nil (as_nil ⟨rfl, q _ z⟩))
end
end Nx
end
section
set_option autoImplicit false
namespace Nx
abbrev sLa := top 21
abbrev eLa (L f : Addr) (cdv : Value) : Env := envOf "law" (fscope sLa) L f cdv
abbrev sLaB : List Stmt := forBody (pick (fbody sLa) 1)
structure LawFns2 (c : Cx) : Prop where
  b : LawFns c
  deed : ∃ f, FnG c "_law_deed" sDe f
  same : ∃ f, FnG c "_law_same" sSm f
  seed : ∃ f, FnG c "_law_seed" sSd f
def FrL (gid : Nat) (H H' : AHeap) : Prop := ∀ b t o, H b = some (t, o) → t.own ≠ gid → t.own ≠ xo → ¬ (60 ≤ t.own ∧ t.own < 100) → t.own ≠ 50 → t.own ≠ 52 → t.own ≠ 54 → H' b = some (t, o)
theorem FrL.trans {gid : Nat} {H H' H'' : AHeap} (x : FrL gid H H') (y : FrL gid H' H'') : FrL gid H H'' := fun b t o h n1 n2 n3 n4 n5 n6 => y b t o (x b t o h n1 n2 n3 n4 n5 n6) n1 n2 n3 n4 n5 n6
theorem FrD.l {gid : Nat} {H H' : AHeap} (h : FrD gid H H') : FrL gid H H' := fun b t o hb n1 n2 n3 n4 n5 _ => h b t o hb n1 n2 n3 n4 n5
theorem Frame.l54 {gid : Nat} {H H' : AHeap} (h : Frame 54 H H') : FrL gid H H' := fun b t o hb _ n2 _ _ _ n6 => h b t o hb n6 n2
section
variable {c : Cx} {A : Around} {H H' : AHeap} {gid : Nat} {dir : Bool} {C CN CE D Cg : Addr} {loc : Loc} {mm : List (Str × AV)} {g : GC} {m : LM} {E : AV → LM → AHeap → Prop}
variable {sa dn de dw : Addr} {x : Int} {n : List (Int × List (Str × Int))} {e : List ((Int × Int) × List (Str × Int))} {w : List (Str × Int)} {L f : Addr} {cdv : Value}
theorem GAt.kept (h : GAt gid dir C CN loc mm g H) (k : ∀ b t o, H b = some (t, o) → t.own = gid ∨ t.own = gid + 100 → H' b = some (t, o)) : GAt gid dir C CN loc mm g H' :=
  ⟨fun t o hw => k _ _ _ (h.at_ t o hw) (.inl (wantG_own (by rw [hw]; exact fun z => nomatch z))), h.att, h.wf,
    h.nv.imp id fun ⟨a, d, h1, h2, h3⟩ => ⟨a, d, h1, k _ _ _ h2 (.inr rfl), k _ _ _ h3 (.inr rfl)⟩⟩
theorem DAt.kept {tn te tw : Tag} (h : DAt dn de dw tn te tw n e w H) (k : ∀ b t o, H b = some (t, o) → t = tn ∨ t = te ∨ t = tw → H' b = some (t, o)) : DAt dn de dw tn te tw n e w H' :=
  ⟨k _ _ _ h.n (.inl rfl), k _ _ _ h.e (.inr (.inl rfl)), k _ _ _ h.w (.inr (.inr rfl))⟩
theorem DSt.kept (h : DSt gid dir C CN loc mm g sa dn de dw x n e w H) (k : ∀ b t o, H b = some (t, o) → t.own = gid ∨ t.own = gid + 100 ∨ t.own = 50 ∨ t.own = 52 → H' b = some (t, o)) : DSt gid dir C CN loc mm g sa dn de dw x n e w H' :=
  ⟨h.gr.kept fun b t o hb z => k b t o hb (z.elim .inl fun z => .inr (.inl z)), h.d.kept fun b t o hb z => k b t o hb (.inr (.inr (.inl (by rcases z with rfl | rfl | rfl <;> rfl)))), k _ _ _ h.s (.inr (.inr (.inr rfl))), h.r, h.nd⟩
/-- names of the law -/
structure LNm (m : LM) (X sa dn de dw : Addr) (dir : Bool) : Prop where
  s : m "s" = some (.ref sa)
  gr : m "graph" = some (.ref X)
  di : m "is_directed" = some (.bool dir)
  n : m "nodes" = some (.ref dn)
  e : m "edges" = some (.ref de)
  w : m "whole" = some (.ref dw)
theorem LNm.of {m m' : LM} {X : Addr} (h : LNm m X sa dn de dw dir) (hk : ∀ x : Str, x ≠ "turn" → m' x = m x) : LNm m' X sa dn de dw dir :=
  ⟨(hk _ (by decide)).trans h.s, (hk _ (by decide)).trans h.gr, (hk _ (by decide)).trans h.di, (hk _ (by decide)).trans h.n, (hk _ (by decide)).trans h.e, (hk _ (by decide)).trans h.w⟩
def LPost (gid : Nat) (dir : Bool) (C CN : Addr) (loc : Loc) (sa dn de dw : Addr) (H H' : AHeap) : Prop := ∃ (loc' : Loc) (mm' : List (Str × AV)) (g' : GC) (y : Int) (n' : List (Int × List (Str × Int))) (e' : List ((Int × Int) × List (Str × Int))) (w' : List (Str × Int)), DSt gid dir C CN loc' mm' g' sa dn de dw y n' e' w' H' ∧ Same gid loc loc' ∧ FrL gid H H'
/-- for turn in range(..): _law_deed(s, graph, is_directed, nodes, edges, whole) -/
theorem a1_deeds (hF : LawFns2 c) (hO : GOps c dir C CN CE D) (hG : LawG c CE D Cg) (rm : Rm A 7) (hg : 0 < gid ∧ gid < 50) (h : DSt gid dir C CN loc mm g sa dn de dw x n e w H) (hm : LNm m (loc (tX gid)) sa dn de dw dir)
    {p1 p2 p3 p4 q1 q2 q3 q4 q5 q6 q7 q8 q9 : Pos} {ex : Expr} {Q : AFl → LM → AHeap → Prop}
    (he : ∀ {P : AV → LM → AHeap → Prop}, (∀ v y H', 0 ≤ v → v < 10 → DSt gid dir C CN loc mm g sa dn de dw y n e w H' → FrD gid H H' → P (.int v) m H') → AE true c A (eLa L f cdv) m H ex P E)
    (q : ∀ m' H', (∀ x : Str, x ≠ "turn" → m' x = m x) → LPost gid dir C CN loc sa dn de dw H H' → Q .next m' H')
    (hp : (backTo p3 (starEach [ex] (eLa L f cdv))).any (·.1) = false := by rfl)
    (he' : eval (.Call (.Name "range" p2) [ex] [] p3) (eLa L f cdv) = (do let fv ← eval (.Name "range" p2) (eLa L f cdv); callWith p3 fv [] (backTo p3 (starEach [ex] (eLa L f cdv))) (backToKw p3 (keywordEach [] (eLa L f cdv)))) := by rfl)
    (hst1 : starEach (ex :: []) (eLa L f cdv) = (false, eval ex (eLa L f cdv)) :: starEach [] (eLa L f cdv) := by rfl)
    (hs : ∀ x, foldedSetIterable (.Call (.Name "range" p2) [ex] [] p3) (eLa L f cdv) x = pure x := by intro _; rfl)
    (hi : interactive (eLa L f cdv) = false := by rfl)
    (hsw : swapsWith (.Call (.Name "_law_deed" q1) [.Name "s" q2, .Name "graph" q3, .Name "is_directed" q4, .Name "nodes" q5, .Name "edges" q6, .Name "whole" q7] [] q8) none q9.line (eLa L f cdv) = pure false := by rfl) :
    A1 true c A (eLa L f cdv) m H (.For (.Name "turn" p1) (.Call (.Name "range" p2) [ex] [] p3) [.Expr (.Call (.Name "_law_deed" q1) [.Name "s" q2, .Name "graph" q3, .Name "is_directed" q4, .Name "nodes" q5, .Name "edges" q6, .Name "whole" q7] [] q8) q9] [] p4) Q E := by
  obtain ⟨fd, hGd, hKd, cdd, hFd⟩ := hF.deed
  refine a1_rangeE 54 (hG.gb _ (by decide)) hG.br rm.h (fun m' H' => (∀ x : Str, x ≠ "turn" → m' x = m x) ∧ LPost gid dir C CN loc sa dn de dw H H') (he fun v y H' v0 v10 h1 f1 => ?_) ?_ ?_ ?_ rfl rfl rfl rfl rfl hp he' hst1 hs
  · exact ⟨⟨v.toNat, by omega, by rw [Int.toNat_of_nonneg v0]⟩, fun _ _ => rfl, loc, mm, g, y, n, e, w, h1, Same.refl _ _, f1.l⟩
  · rintro m' H1 H2 ⟨z1, loc', mm', g', y, n', e', w', z2, z3, z4⟩ fr
    refine ⟨z1, loc', mm', g', y, n', e', w', z2.kept fun b t o hb hz => fr b t o hb ?_ ?_, z3, z4.trans fr.l54⟩
    · rcases hz with hz | hz | hz | hz <;> (rw [hz]; omega)
    · rcases hz with hz | hz | hz | hz <;> (rw [hz]; show _ ≠ 0; omega)
  · rintro i m1 H1 ⟨z1, loc', mm', g', y, n', e', w', z2, z3, z4⟩
    have hm1 := hm.of z1
    have hX : loc (tX gid) = loc' (tX gid) := (z3 (tX gid) rfl (by simp)).symm
    rw [hX] at hm1
    have hm2 : ∀ x : Str, x ≠ "turn" → setm m1 "turn" (.int i) x = m x := fun x hx => by
      unfold setm
      rw [if_neg hx]
      exact z1 x hx
    refine as_cons (a1_expr (ae_call (names := []) (pe_glob hGd) con_is hKd (al_cons (ae_pe (pe_name (by exact hm1.s)) (al_cons (ae_pe (pe_name (by exact hm1.gr)) (al_cons (ae_pe (pe_name (by exact hm1.di)) (al_cons (ae_pe (pe_name (by exact hm1.n)) (al_cons (ae_pe (pe_name (by exact hm1.e)) (al_cons (ae_pe (pe_name (by exact hm1.w)) (al_nil ⟨[], kw_nil, rfl, ?_⟩)))))))))))))) hi hsw)
    refine CallOk.mono (deed_ok hFd hF.b hO hG (rm.less (by omega)) hg z2) ?_ fun _ _ z => z.elim
    rintro r H2 ⟨rfl, loc2, mm2, g2, y2, n2, e2, w2, y1, y3, y4⟩
    exact ⟨rfl, as_nil ⟨⟨hm2, loc2, mm2, g2, y2, n2, e2, w2, y1, z3.trans y3, z4.trans y4.l⟩, fun b o hb => y4 _ _ _ hb (by show 54 ≠ gid; omega) (by decide) (by decide) (by decide) (by decide)⟩⟩
  · rintro m1 H1 ⟨z1, z2⟩
    exact q m1 H1 z1 z2
end
end Nx
end
section
set_option autoImplicit false
namespace Nx
/-- what one turn of the law may touch -/
def FrB (gid : Nat) (H H' : AHeap) : Prop := ∀ b t o, H b = some (t, o) → t.own = 53 → H' b = some (t, o)
theorem FrB.trans {gid : Nat} {H H' H'' : AHeap} (x : FrB gid H H') (y : FrB gid H' H'') : FrB gid H H'' := fun b t o h n => y b t o (x b t o h n) n
section
variable {c : Cx} {A : Around} {H H' : AHeap} {gid : Nat} {dir : Bool} {C CN CE D Cg : Addr} {loc : Loc} {mm : List (Str × AV)} {g : GC} {m : LM} {E : AV → LM → AHeap → Prop}
variable {sa dn de dw : Addr} {x : Int} {n : List (Int × List (Str × Int))} {e : List ((Int × Int) × List (Str × Int))} {w : List (Str × Int)} {L f : Addr} {cdv : Value}
theorem FrL.b (h : FrL gid H H') (hg : gid < 50) : FrB gid H H' := fun b t o hb z => h b t o hb (by omega) (by rw [z]; decide) (by omega) (by omega) (by omega) (by omega)
theorem Frame.b {rid : Nat} (h : Frame rid H H') (hr : rid ≠ 53) : FrB gid H H' := fun b t o hb z => h b t o hb (by omega) (by rw [z]; decide)
theorem FrJ.b {k : Nat} (h : FrJ k gid H H') (hg : gid < 50) : FrB gid H H' := fun b t o hb z => h b t o hb (by omega) (by rw [z]; decide) (by omega)
/-- the last part: both graphs against both rows of dicts -/
theorem law_tail (hF : LawFns2 c) (hO : GOps c dir C CN CE D) (hG : LawG c CE D Cg) (rm : Rm A 9) (hg : 0 < gid ∧ gid + 2 < 50) (h : DSt gid dir C CN loc mm g sa dn de dw x n e w H) (hm : LNm m (loc (tX gid)) sa dn de dw dir)
    {loc2 : Loc} {mm2 : List (Str × AV)} {g2 : GC} {d1 d2 d3 : Addr} {n1 : List (Int × List (Str × Int))} {e1 : List ((Int × Int) × List (Str × Int))} {w1 : List (Str × Int)} (h2 : GAt (gid + 1) dir C CN loc2 mm2 g2 H) (hR2 : Rel g2 n1 e1 w1) (hD2 : DAt d1 d2 d3 ⟨51, 0, []⟩ ⟨51, 1, []⟩ ⟨51, 2, []⟩ n1 e1 w1 H)
    (hmo : m "other" = some (.ref (loc2 (tX (gid + 1))))) (hme : m "early" = some (.tup [.ref d1, .ref d2, .ref d3]))
    {Q : AFl → LM → AHeap → Prop} (q : ∀ m' H' y, m' "s" = some (.ref sa) → H' sa = some (tLs, .list [.int y]) → FrB gid H H' → Q .next m' H') : AS true c A (eLa L f cdv) m H [pick sLaB 7, pick sLaB 8, pick sLaB 9] Q E := by
  have hw0 : Small w := by have := h.gr.wf.smW; rw [h.r.w] at this; exact this
  have hwl := hw0.length
  refine as_cons (a1_setE (ae_pe (v := .int 99) pe_int ⟨.ref (loc (tG gid)), .str "w", pe_own hO.k (pe_name (by exact hm.gr)) h.gr.x h.gr.d h.gr.att.g, pe_str, SetOk.mono (set_dS h.gr.w (by rw [nums_length, h.r.w]; omega)) ?_⟩))
  rintro H1 rfl
  rw [put_nums, h.r.w]
  obtain ⟨hg1, f1⟩ := h.gr.setWhole (hw0.put (k := "w") (.inl rfl) 99)
  have hd1 : DAt dn de dw tLn tLe tLw n e w _ := ⟨f1 _ _ _ h.d.n (by show 50 ≠ gid; omega) (by decide), f1 _ _ _ h.d.e (by show 50 ≠ gid; omega) (by decide), f1 _ _ _ h.d.w (by show 50 ≠ gid; omega) (by decide)⟩
  have hs1 := f1 _ _ _ h.s (by show 52 ≠ gid; omega) (by decide)
  have h21 := h2.frame f1 (by omega) (by show gid + 1 + 100 ≠ gid; omega) (by show gid + 1 ≠ 0; omega)
  have hD21 : DAt d1 d2 d3 ⟨51, 0, []⟩ ⟨51, 1, []⟩ ⟨51, 2, []⟩ n1 e1 w1 _ := hD2.kept fun b t o hb z => f1 b t o hb (by rcases z with rfl | rfl | rfl <;> (show 51 ≠ gid; omega)) (by rcases z with rfl | rfl | rfl <;> decide)
  generalize upd H (loc (tG gid)) (tG gid, .dS (nums (put w "w" 99))) = H1 at hg1 f1 hd1 hs1 h21 hD21 ⊢
  refine as_cons (a1_setE (ae_pe (v := .int 99) pe_int ⟨.ref dw, .str "w", pe_name (by exact hm.w), pe_str, SetOk.mono (set_dS hd1.w (by rw [nums_length]; omega)) ?_⟩))
  rintro H2 rfl
  rw [put_nums]
  have f2 : Frame 50 H1 (upd H1 dw (tLw, .dS (nums (put w "w" 99)))) := Frame.upd fun t o z => by rw [hd1.w] at z; cases z; rfl
  have hg2 := hg1.f50 ⟨hg.1, by omega⟩ f2
  have hd2 : DAt dn de dw tLn tLe tLw n e (put w "w" 99) (upd H1 dw (tLw, .dS (nums (put w "w" 99)))) := ⟨upd_of (ne_tag hd1.n hd1.w (by decide)) hd1.n, upd_of (ne_tag hd1.e hd1.w (by decide)) hd1.e, upd_same⟩
  have hs2 := f2 _ _ _ hs1 (by decide) (by decide)
  have h22 := h21.frame f2 (by omega) (by show gid + 1 + 100 ≠ 50; omega) (by show gid + 1 ≠ 0; omega)
  have hD22 : DAt d1 d2 d3 ⟨51, 0, []⟩ ⟨51, 1, []⟩ ⟨51, 2, []⟩ n1 e1 w1 _ := hD21.kept fun b t o hb z => f2 b t o hb (by rcases z with rfl | rfl | rfl <;> decide) (by rcases z with rfl | rfl | rfl <;> decide)
  have hr2 : Rel { g with whole := put w "w" 99 } n e (put w "w" 99) := h.r.d2 _
  have fb2 : FrB gid H (upd H1 dw (tLw, .dS (nums (put w "w" 99)))) := (f1.b (by omega)).trans (f2.b (by decide))
  generalize upd H1 dw (tLw, .dS (nums (put w "w" 99))) = H2 at hg2 hd2 hs2 h22 hD22 fb2 ⊢
  obtain ⟨fs, hGs, hKs, cds, hFs⟩ := hF.same
  have l51 : Law5 ⟨51, 0, []⟩ ∧ Law5 ⟨51, 1, []⟩ ∧ Law5 ⟨51, 2, []⟩ := ⟨⟨by decide, by decide⟩, ⟨by decide, by decide⟩, ⟨by decide, by decide⟩⟩
  refine as_cons (a1_ifE (ab_bool (abs_or (ab_not (ab_val ?_)))))
  refine ae_call (names := []) (pe_glob hGs) con_is hKs (al_cons (ae_pe (pe_name (by exact hmo)) (al_cons (ae_pe (pe_name (by exact hm.di)) (al_cons (ae_pe (v := .ref d1) (pe_sub_tup (k := 0) (pe_name (by exact hme)) pe_int (by decide) (by decide) rfl) (al_cons (ae_pe (v := .ref d2) (pe_sub_tup (k := 1) (pe_name (by exact hme)) pe_int (by decide) (by decide) rfl) (al_cons (ae_pe (v := .ref d3) (pe_sub_tup (k := 2) (pe_name (by exact hme)) pe_int (by decide) (by decide) rfl) (al_nil ⟨[], kw_nil, rfl, ?_⟩)))))))))))
  refine CallOk.mono (same_ok hFs hO hG (rm.less (by omega)) ⟨by omega, by omega⟩ h22 hR2 hD22 l51.1 l51.2.1 l51.2.2) ?_ fun _ _ z => z.elim
  rintro r H3 ⟨rfl, mm3, h23, f3⟩
  have hg3 : GAt gid dir C CN loc mm { g with whole := put w "w" 99 } H3 := hg2.f60 f3 (by decide) (by omega) hg.1 (by omega) (by omega)
  have hd3 := hd2.f60 f3 (by omega) law5n law5e law5w
  have hs3 := f3 _ _ _ hs2 (by show 52 ≠ gid + 1; omega) (by decide) (by decide)
  refine ⟨true, rfl, abs_or (ab_not (ab_val ?_))⟩
  refine ae_call (names := []) (pe_glob hGs) con_is hKs (al_cons (ae_pe (pe_name (by exact hm.gr)) (al_cons (ae_pe (pe_name (by exact hm.di)) (al_cons (ae_pe (pe_name (by exact hm.n)) (al_cons (ae_pe (pe_name (by exact hm.e)) (al_cons (ae_pe (pe_name (by exact hm.w)) (al_nil ⟨[], kw_nil, rfl, ?_⟩)))))))))))
  refine CallOk.mono (same_ok hFs hO hG (rm.less (by omega)) ⟨hg.1, by omega⟩ hg3 hr2 hd3 law5n law5e law5w) ?_ fun _ _ z => z.elim
  rintro r H4 ⟨rfl, mm4, hg4, f4⟩
  have hs4 := f4 _ _ _ hs3 (by show 52 ≠ gid; omega) (by decide) (by decide)
  exact ⟨true, rfl, abs_or_nil (as_nil (as_nil (q _ _ x hm.s hs4 ((fb2.trans (f3.b (by omega))).trans (f4.b (by omega))))))⟩
end
end Nx
end
section
set_option autoImplicit false
namespace Nx
section
variable {c : Cx} {A : Around} {H H' : AHeap} {gid : Nat} {dir : Bool} {C CN CE D Cg : Addr} {loc : Loc} {mm : List (Str × AV)} {g : GC} {m : LM} {E : AV → LM → AHeap → Prop}
variable {sa dn de dw : Addr} {x : Int} {n : List (Int × List (Str × Int))} {e : List ((Int × Int) × List (Str × Int))} {w : List (Str × Int)} {L f : Addr} {cdv : Value}
/-- graph = DiGraph() if is_directed else Graph(); nodes, edges, whole = ({}, {}, {}) -/
theorem law_head (hO : GOps c dir C CN CE D) (hC : C = if dir = true then D else Cg) (hG : LawG c CE D Cg) (rm : Rm A 9) (hg : 0 < gid ∧ gid + 2 < 50) (hs : H sa = some (tLs, .list [.int x])) (hms : m "s" = some (.ref sa)) (hmd : m "is_directed" = some (.bool dir))
    {Q : AFl → LM → AHeap → Prop} {rest : List Stmt}
    (q : ∀ m' H' loc mm dn de dw, LNm m' (loc (tX gid)) sa dn de dw dir → DSt gid dir C CN loc mm GC.empty sa dn de dw x [] [] [] H' → FrB gid H H' → AS true c A (eLa L f cdv) m' H' rest Q E) :
    AS true c A (eLa L f cdv) m H (pick sLaB 0 :: pick sLaB 1 :: rest) Q E := by
  refine as_cons (a1_assignE (ae_if (ab_pb (pb_bool (pe_name (by exact hmd))) ?_)))
  have next : ∀ v H1, (∃ (loc : Loc) (mm : List (Str × AV)), v = .ref (loc (tX gid)) ∧ look mm "nodes" = none ∧ look mm "adj" = none ∧ GAt gid dir C CN loc mm GC.empty H1 ∧ Frame gid H H1) → AS true c A (eLa L f cdv) (setm m "graph" v) H1 (pick sLaB 1 :: rest) Q E := by
    rintro v H1 ⟨loc, mm, rfl, _, _, hg1, f1⟩
    have hs1 := f1 _ _ _ hs (by show 52 ≠ gid; omega) (by decide)
    refine as_cons (a1_assign_swap (names := ["nodes", "edges", "whole"]) (by intro y hy; rcases List.mem_cons.mp hy with rfl | hy; rfl; rcases List.mem_cons.mp hy with rfl | hy; rfl; rcases List.mem_cons.mp hy with rfl | hy; rfl; cases hy)
      (ae_tuple (al_cons (ae_dict0 tLn (o := .dI []) rfl fun dn hdn => al_cons (ae_dict0 tLe (o := .dP []) rfl fun de hde => al_cons (ae_dict0 tLw (o := .dS []) rfl fun dw hdw => al_nil ⟨by simp, ?_⟩)))))) 
    refine ⟨[.ref dn, .ref de, .ref dw], unp_tup (.inl rm.h), rfl, ?_⟩
    have a1 : upd (upd (upd H1 dn (tLn, .dI [])) de (tLe, .dP [])) dw (tLw, .dS []) dn = some (tLn, .dI []) := upd_new hdw (upd_new hde upd_same)
    have a2 : upd (upd (upd H1 dn (tLn, .dI [])) de (tLe, .dP [])) dw (tLw, .dS []) de = some (tLe, .dP []) := upd_new hdw upd_same
    have a3 : upd (upd (upd H1 dn (tLn, .dI [])) de (tLe, .dP [])) dw (tLw, .dS []) dw = some (tLw, .dS []) := upd_same
    have f2 : Frame 50 H1 (upd (upd (upd H1 dn (tLn, .dI [])) de (tLe, .dP [])) dw (tLw, .dS [])) := ((Frame.new hdn).trans (Frame.new hde)).trans (Frame.new hdw)
    generalize upd (upd (upd H1 dn (tLn, .dI [])) de (tLe, .dP [])) dw (tLw, .dS []) = H2 at a1 a2 a3 f2 ⊢
    exact q _ H2 loc mm dn de dw ⟨hms, rfl, hmd, rfl, rfl, rfl⟩ ⟨hg1.f50 ⟨hg.1, by omega⟩ f2, ⟨a1, a2, a3⟩, f2 _ _ _ hs1 (by decide) (by decide), ⟨rfl, fun _ => rfl, rfl⟩, List.nodup_nil⟩ ((f1.b (by omega)).trans (f2.b (by decide)))
  cases dir with
  | true =>
    obtain rfl : C = D := hC
    exact ae_call (names := []) (pe_glob hG.gD) con_is hG.kD (al_nil ⟨[], kw_nil, rfl, CallOk.mono (hO.makes.2 true A H gid (rm.less (by omega))) next fun _ _ z => z.elim⟩)
  | false =>
    obtain rfl : C = Cg := hC
    exact ae_call (names := []) (pe_glob hG.gG) con_is hG.kG (al_nil ⟨[], kw_nil, rfl, CallOk.mono (hO.makes.2 true A H gid (rm.less (by omega))) next fun _ _ z => z.elim⟩)
theorem law_body (hF : LawFns2 c) (hO : GOps c dir C CN CE D) (hC : C = if dir = true then D else Cg) (hG : LawG c CE D Cg) (rm : Rm A 9) (hg : 0 < gid ∧ gid + 2 < 50) (hs : H sa = some (tLs, .list [.int x])) (hms : m "s" = some (.ref sa)) (hmd : m "is_directed" = some (.bool dir))
    {Q : AFl → LM → AHeap → Prop} (q : ∀ m' H' y, m' "s" = some (.ref sa) → H' sa = some (tLs, .list [.int y]) → FrB gid H H' → Q .next m' H') :
    AS true c A (eLa L f cdv) m H sLaB Q E := by
  obtain ⟨fs, hGs, hKs, cds, hFs⟩ := hF.same
  obtain ⟨fC, hCm, hCk, hCc⟩ := hO.copy
  refine law_head hO hC hG rm hg hs hms hmd fun m1 H1 loc mm dn de dw hm1 h1 fb1 => ?_
  have hg50 : 0 < gid ∧ gid < 50 := ⟨hg.1, by omega⟩
  refine as_cons (a1_deeds hF hO hG (rm.less (by omega)) hg50 h1 hm1 (fun k => ae_next hF.b (rm.less (by omega)) hg50 (by exact hm1.s) h1 (fun _ => pe_int) (by decide) k) fun m2 H2 hk2 hl2 => ?_)
  obtain ⟨loc2, mm2, g2, x2, n2, e2, w2, h2, s2, f2⟩ := hl2
  have hX : loc2 (tX gid) = loc (tX gid) := s2 (tX gid) rfl (by simp)
  have hm2 := hm1.of hk2
  rw [← hX] at hm2
  have fb2 : FrB gid H H2 := fb1.trans (f2.b (by omega))
  refine as_cons (a1_ifE (ab_not (ab_val ?_)))
  refine ae_call (names := []) (pe_glob hGs) con_is hKs (al_cons (ae_pe (pe_name (by exact hm2.gr)) (al_cons (ae_pe (pe_name (by exact hm2.di)) (al_cons (ae_pe (pe_name (by exact hm2.n)) (al_cons (ae_pe (pe_name (by exact hm2.e)) (al_cons (ae_pe (pe_name (by exact hm2.w)) (al_nil ⟨[], kw_nil, rfl, ?_⟩)))))))))))
  refine CallOk.mono (same_ok hFs hO hG (rm.less (by omega)) hg50 h2.gr h2.r h2.d law5n law5e law5w) ?_ fun _ _ z => z.elim
  rintro r H3 ⟨rfl, mm3, hg3, f3⟩
  refine ⟨true, rfl, as_nil ?_⟩
  have h3 : DSt gid dir C CN loc2 mm3 g2 sa dn de dw x2 n2 e2 w2 H3 := ⟨hg3, h2.d.f60 f3 (by omega) law5n law5e law5w, f3 _ _ _ h2.s (by show 52 ≠ gid; omega) (by decide) (by decide), h2.r, h2.nd⟩
  have fb3 : FrB gid H H3 := fb2.trans (f3.b (by omega))
  -- other = graph.copy()
  refine as_cons (a1_assignE (ae_meth (names := []) (pe_name (by exact hm2.gr)) hg3.x hg3.d hCm (hg3.att.other _ (by decide)) hCk (al_nil ⟨[], kw_nil, rfl, ?_⟩)))
  refine CallOk.mono (hCc true A H3 (gid + 1) gid (gid + 2) loc2 mm3 g2 ⟨by omega, by unfold vid; omega, by unfold vid; omega, by unfold vid; omega, by unfold vid; omega, by omega, by omega, by show gid + 2 ≠ 0; omega, by show gid + 1 ≠ 0; omega, by show gid ≠ 0; omega, by omega, by omega, by omega, by omega⟩ (rm.less (by omega)) hg3) ?_ fun _ _ z => z.elim
  rintro v H4 ⟨loc4, mm4, rfl, _, hgc, hg4, f4⟩
  have h4 : DSt gid dir C CN loc2 mm3 g2 sa dn de dw x2 n2 e2 w2 H4 := ⟨hg4, h3.d.kept fun b t o hb z => f4 b t o hb (by rcases z with rfl | rfl | rfl <;> (show 50 ≠ gid + 1; omega)) (by rcases z with rfl | rfl | rfl <;> (show 50 ≠ gid + 2; omega)) (by rcases z with rfl | rfl | rfl <;> decide) (by rcases z with rfl | rfl | rfl <;> (show 50 ≠ gid; omega)), f4 _ _ _ h3.s (by show 52 ≠ gid + 1; omega) (by show 52 ≠ gid + 2; omega) (by decide) (by show 52 ≠ gid; omega), h3.r, h3.nd⟩
  have fb4 : FrB gid H H4 := fb3.trans fun b t o hb z => f4 b t o hb (by omega) (by omega) (by rw [z]; decide) (by omega)
  have hRc : Rel (g2.copyOf dir) n2 e2 w2 := h3.r.copy hg3.wf
  have hm4 : LNm (setm m2 "other" (.ref (loc4 (tX (gid + 1))))) (loc2 (tX gid)) sa dn de dw dir := ⟨hm2.s, hm2.gr, hm2.di, hm2.n, hm2.e, hm2.w⟩
  have hmo4 : setm m2 "other" (.ref (loc4 (tX (gid + 1)))) "other" = some (.ref (loc4 (tX (gid + 1)))) := rfl
  generalize setm m2 "other" (.ref (loc4 (tX (gid + 1)))) = m4 at hm4 hmo4 ⊢
  -- early = (dict(nodes), dict(edges), dict(whole))
  have hkeys : ∀ k ∈ (fdR e2).map (·.1), 0 ≤ k.1 ∧ k.1 < 5 ∧ 0 ≤ k.2 ∧ k.2 < 5 := fun k hk => by
    have hk' : k ∈ e2.map (·.1) := by unfold fdR at hk; rw [List.map_map] at hk; exact hk
    have h1 : (look e2 k).isSome = true := look_isSome.mpr hk'
    rw [← h4.r.e] at h1
    obtain ⟨y2, y3⟩ := hg4.wf.egk k h1
    obtain ⟨a1, a2⟩ := hg4.wf.rng _ y2
    obtain ⟨b1, b2⟩ := hg4.wf.rng _ y3
    exact ⟨a1, a2, b1, b2⟩
  refine as_cons (a1_assignE (ae_tuple (al_cons (ae_callW (pe_blt (hG.gb _ (by decide)) hG.bd) con_is keep_type (al_cons (ae_pe (pe_name (by exact hm4.n)) (al_nil (CallW.mono (cw_dict_dI ⟨51, 0, []⟩ h4.d.n) ?_ fun _ _ z => z))))))))
  rintro v H5 ⟨d1, hd1, rfl, rfl⟩
  have f5 : Frame 51 H4 (upd H4 d1 (⟨51, 0, []⟩, .dI (fdR n2))) := Frame.new hd1
  have a5 : upd H4 d1 (⟨51, 0, []⟩, .dI (fdR n2)) d1 = some (⟨51, 0, []⟩, .dI (fdR n2)) := upd_same
  have h5 : DAt dn de dw tLn tLe tLw n2 e2 w2 (upd H4 d1 (⟨51, 0, []⟩, .dI (fdR n2))) := h4.d5 f5 (by decide)
  generalize upd H4 d1 (⟨51, 0, []⟩, .dI (fdR n2)) = H5 at f5 a5 h5 ⊢
  refine al_cons (ae_callW (pe_blt (hG.gb _ (by decide)) hG.bd) con_is keep_type (al_cons (ae_pe (pe_name (by exact hm4.e)) (al_nil (CallW.mono (cw_dict_dP ⟨51, 1, []⟩ h5.e hkeys) ?_ fun _ _ z => z)))))
  rintro v H6 ⟨d2, hd2, rfl, rfl⟩
  have f6 : Frame 51 H5 (upd H5 d2 (⟨51, 1, []⟩, .dP (fdR e2))) := Frame.new hd2
  have a6 : upd H5 d2 (⟨51, 1, []⟩, .dP (fdR e2)) d1 = some (⟨51, 0, []⟩, .dI (fdR n2)) := upd_new hd2 a5
  have b6 : upd H5 d2 (⟨51, 1, []⟩, .dP (fdR e2)) d2 = some (⟨51, 1, []⟩, .dP (fdR e2)) := upd_same
  have h6 : (upd H5 d2 (⟨51, 1, []⟩, .dP (fdR e2))) dw = some (tLw, .dS (nums w2)) := f6 _ _ _ h5.w (by decide) (by decide)
  generalize upd H5 d2 (⟨51, 1, []⟩, .dP (fdR e2)) = H6 at f6 a6 b6 h6 ⊢
  refine al_cons (ae_callW (pe_blt (hG.gb _ (by decide)) hG.bd) con_is keep_type (al_cons (ae_pe (pe_name (by exact hm4.w)) (al_nil (CallW.mono (cw_dict_dS ⟨51, 2, []⟩ h6) ?_ fun _ _ z => z)))))
  rintro v H7 ⟨d3, hd3, rfl, rfl⟩
  have f7 : Frame 51 H6 (upd H6 d3 (⟨51, 2, []⟩, .dS (nums w2))) := Frame.new hd3
  have hD7 : DAt d1 d2 d3 ⟨51, 0, []⟩ ⟨51, 1, []⟩ ⟨51, 2, []⟩ n2 e2 w2 (upd H6 d3 (⟨51, 2, []⟩, .dS (nums w2))) := ⟨upd_new hd3 a6, upd_new hd3 b6, upd_same⟩
  have f47 := (f5.trans f6).trans f7
  generalize upd H6 d3 (⟨51, 2, []⟩, .dS (nums w2)) = H7 at hD7 f47 ⊢
  refine al_nil ⟨by simp, ?_⟩
  have h7 : DSt gid dir C CN loc2 mm3 g2 sa dn de dw x2 n2 e2 w2 H7 := h4.kept fun b t o hb z => f47 b t o hb (by omega) (by show t.own ≠ 0; omega)
  have hg7 := hgc.frame f47 (by omega) (by show gid + 1 + 100 ≠ 51; omega) (by show gid + 1 ≠ 0; omega)
  have fb7 : FrB gid H H7 := fb4.trans (f47.b (by decide))
  have hm7 : LNm (setm m4 "early" (.tup [.ref d1, .ref d2, .ref d3])) (loc2 (tX gid)) sa dn de dw dir := ⟨hm4.s, hm4.gr, hm4.di, hm4.n, hm4.e, hm4.w⟩
  have hmo7 : setm m4 "early" (.tup [.ref d1, .ref d2, .ref d3]) "other" = some (.ref (loc4 (tX (gid + 1)))) := hmo4
  have hme7 : setm m4 "early" (.tup [.ref d1, .ref d2, .ref d3]) "early" = some (.tup [.ref d1, .ref d2, .ref d3]) := rfl
  generalize setm m4 "early" (.tup [.ref d1, .ref d2, .ref d3]) = m7 at hm7 hmo7 hme7 ⊢
  -- for turn in range(4)
  refine as_cons (a1_deeds hF hO hG (rm.less (by omega)) hg50 h7 hm7 (fun k => ae_pe (v := .int 4) pe_int (k 4 x2 H7 (by decide) (by decide) h7 (FrD.refl _ _))) fun m8 H8 hk8 hl8 => ?_)
  obtain ⟨loc8, mm8, g8, x8, n8, e8, w8, h8, s8, f8⟩ := hl8
  have hX8 : loc8 (tX gid) = loc2 (tX gid) := s8 (tX gid) rfl (by simp)
  have hm8 := hm7.of hk8
  rw [← hX8] at hm8
  have hg8 : GAt (gid + 1) dir C CN loc4 mm4 (g2.copyOf dir) H8 := hg7.kept fun b t o hb z => f8 b t o hb (by omega) (by show t.own ≠ 0; omega) (by omega) (by omega) (by omega) (by omega)
  have hD8 := hD7.kept fun b t o hb z => f8 b t o hb (by rcases z with rfl | rfl | rfl <;> (show 51 ≠ gid; omega)) (by rcases z with rfl | rfl | rfl <;> decide) (by rcases z with rfl | rfl | rfl <;> decide) (by rcases z with rfl | rfl | rfl <;> decide) (by rcases z with rfl | rfl | rfl <;> decide) (by rcases z with rfl | rfl | rfl <;> decide)
  exact law_tail hF hO hG rm hg h8 hm8 hg8 hRc hD8 ((hk8 _ (by decide)).trans hmo7) ((hk8 _ (by decide)).trans hme7) fun m9 H9 y z1 z2 z3 => q m9 H9 y z1 z2 ((fb7.trans (f8.b (by omega))).trans z3)
end
end Nx
end
section
set_option autoImplicit false
namespace Nx
theorem law_ok {c : Cx} {A : Around} {H : AHeap} {C1 C2 CN1 CN2 CE : Addr} {f : Addr} {cdv : Value} (hf : FnIs c f "law" (fpars sLa) (fbody sLa) (fscope sLa) .none .none cdv) (hF : LawFns2 c) (hU : GOps c false C1 CN1 CE C2) (hD : GOps c true C2 CN2 CE C2) (hG : LawG c CE C2 C1) (gA : c.mg "abs" = none) (bA : c.mb "abs" = some (.builtin "abs")) (rm : Rm A 10) {l : Addr} {t' : Tag} {ns : List Int} (hl : H l = some (t', .list (ns.map AV.int))) :
    CallOk true c A H (.ref f) [.ref l] [] (fun r _ => r = .bool true) (fun _ _ => False) := by
  refine call_fn (P := fun ab H' => ab = ([("script", .ref l)] : List (Str × AV)) ∧ H' = H) hf rfl rm.room ?_ ?_ ?_
  · intro name doc pm an ct W s vs kvs ok h1 h2
    cases h2
    cases h1 with | cons r1 h1 => cases h1 with | nil =>
    rename_i v1
    exact BindsTo.of_eq (binds := [("script", v1)]) rfl _ _ _ _ ⟨W, H, _, Post.refl ok, .cons ⟨rfl, r1⟩ .nil, rfl, rfl⟩
  · rintro ab H' ⟨rfl, rfl⟩
    rfl
  · rintro L ab H' ⟨rfl, rfl⟩ hL
    have rm' := rm.deeper (eLa L f cdv)
    obtain ⟨fs, hGs, hKs, cds, hFs⟩ := hF.seed
    refine as_cons (a1_assignE (ae_call (names := []) (pe_glob hGs) con_is hKs (al_cons (ae_pe (pe_name rfl) (al_nil ⟨[], kw_nil, rfl, ?_⟩)))))
    refine CallOk.mono (seed_ok tLs hFs gA bA (rm'.less (by omega)) hl) ?_ fun _ _ z => z.elim
    rintro r H1 ⟨sa, x, rfl, _, _, hs1, _⟩
    refine as_cons (a1_fortup 53 (vs := [.bool false, .bool true]) rm'.h (fun _ m' H' => m' "s" = some (.ref sa) ∧ ∃ y, H' sa = some (tLs, .list [.int y])) (pe_tuple (pl_cons pe_bool (pl_cons pe_bool pl_nil)) (by simp)) ⟨rfl, x, hs1⟩ ?_ ?_ ?_)
    · rintro i m H2 H3 ⟨z1, y, z2⟩ fr
      exact ⟨z1, y, fr _ _ _ z2 (by decide) (by decide)⟩
    · rintro i v m1 H2 hv ⟨z1, y, z2⟩
      cases i with
      | zero =>
        cases hv
        exact law_body (gid := 1) (dir := false) hF hU rfl hG rm' (by decide) z2 (by exact z1) rfl fun m' H' y' y1 y2 y3 => ⟨⟨y1, y', y2⟩, fun b o hb => y3 b _ o hb rfl⟩
      | succ i => cases i with
        | zero =>
          cases hv
          exact law_body (gid := 4) (dir := true) hF hD rfl hG rm' (by decide) z2 (by exact z1) rfl fun m' H' y' y1 y2 y3 => ⟨⟨y1, y', y2⟩, fun b o hb => y3 b _ o hb rfl⟩
        | succ i => cases hv
    · rintro m1 H2 _
      exact as_cons (a1_return pe_bool rfl)
end Nx
end
section
set_option autoImplicit false
namespace Nx
/-- a list of ints that stood ahead of the call -/
def BaseL (c : Cx) (l : Addr) (ns : List Int) : Prop := ∃ ob vs n, c.base.get? l = some ob ∧ ob.cls = .type "list" ∧ ob.data = .seq vs.toArray n ∧ IntsAre vs ns ∧ ns.length ≤ 1000
local macro_rules | `(tactic| walk_at "pe") => `(tactic| first
  | exact pe_int | exact pe_str | exact pe_none | exact pe_bool
  | exact pe_name rfl
  | exact pe_name (by assumption)
  | (refine' pe_add ?l ?r; (case l => walk_at "pe"); (case r => walk_at "pe"))
  | (refine' pe_mul ?l ?r ?z; (case l => walk_at "pe"); (case r => walk_at "pe"); (case z => decide))
  | (refine' pe_mod ?l ?r ?z; (case l => walk_at "pe"); (case r => walk_at "pe"); (case z => first | assumption | decide | omega)))
section
variable {nf : Bool} {c : Cx} {A : Around} {env : Env} {m : LM} {H : AHeap} {E : AV → LM → AHeap → Prop} {W : WM} {s : Shared}
theorem ae_sliceB (t : Tag) {value ub : Expr} {p pos : Pos} {l : Addr} {ns : List Int} {y : Int} {Q : AV → LM → AHeap → Prop} (hv : PE c A env m H value (.ref l)) (hu : PE c A env m H ub (.int y)) (hl : BaseL c l ns) (h0 : 0 ≤ y)
    (q : ∀ d, H d = none → Q (.ref d) m (upd H d (t, .list ((ns.take y.toNat).map AV.int)))) (ht : ∀ o r, letTemporaryGo value o r = pure () := by intro _ _; rfl) : AE nf c A env m H (.Subscript value (.Slice none (some ub) none p) pos) Q E := .mk fun W s ok fo => by
  refine wpN_of (wpAny_Subscript_list_slice (hv.run ok fo fun W1 s1 u p1 f1 r1 => ?_) ht)
  obtain rfl : u = .ref l := r1
  rw [evalPart_none]
  refine wpAny_pure ?_
  refine (show wpAny c.M A (eval ub env) _ _ s1 from hu.run p1.ok f1 fun W2 s2 x p2 f2 r2 => ?_)
  obtain ⟨tk, rfl⟩ := r2
  obtain ⟨ob, vs, n, g, hc, hd, hI, z⟩ := hl
  have D : s2.heap.IsList l vs.toArray := ⟨ob, p2.ok.old.k.get_of_cls g (by rw [hc]; exact fun z => nomatch z), hc, n, hd⟩
  have hlen := hI.length
  refine ⟨l, _, none, some y, rfl, D, by rw [sizeLine_eq]; simp; omega, .none, .int y tk, ?_⟩
  have p3 := p2.ok.grow (h' := s2.heap.push { cls := .type "slice", data := .fields #[.none, .int y tk, .none] }) s2.toks (fun _ _ e => Heap.get?_push_of_some _ e) (by rw [Heap.size_push]; exact Nat.le_succ _)
  have hu' := ints_vr (W := W2) (kmk_upto hI h0)
  have hl2 := (kmk_upto hI h0).length
  have p4 := p3.ok.alloc (t := t) (o := .list ((ns.take y.toNat).map AV.int)) (ob := { cls := .type "list", data := .seq (slicePick vs.toArray none (some y) none) }) s2.toks (OR.list' (vs := (slicePick vs.toArray none (some y) none).toList) rfl rfl hu' (by rw [List.length_map, List.length_take]; omega)) rfl rfl
  have hsz : ({ s2 with heap := s2.heap.push { cls := .type "slice", data := .fields #[.none, .int y tk, .none] }, toks := s2.toks } : Shared).heap.objs.size = s2.heap.objs.size + 1 := Heap.size_push _ _
  have hnew := p3.ok.fresh
  rw [hsz] at p4 hnew
  have pp := ((p1.trans p2).trans p3).trans p4
  exact ⟨W2, _, m, .ref _, pp.x _, fo.keep pp, VR.ref', q _ hnew⟩
end
section
variable {nf : Bool} {c : Cx} {A : Around} {H : AHeap}
theorem seed_okB (t : Tag) {f : Addr} {cdv : Value} (hf : FnIs c f "_law_seed" (fpars sSd) (fbody sSd) (fscope sSd) .none .none cdv) (gA : c.mg "abs" = none) (bA : c.mb "abs" = some (.builtin "abs")) (rm : Rm A 1) {l : Addr} {ns : List Int} (hl : BaseL c l ns) :
    CallOk nf c A H (.ref f) [.ref l] [] (fun r H' => ∃ a x, r = .ref a ∧ 0 ≤ x ∧ H a = none ∧ H' a = some (t, .list [.int x]) ∧ Grows H H') (fun _ _ => False) := by
  refine call_fn (P := fun ab H' => ab = ([("script", .ref l)] : List (Str × AV)) ∧ H' = H) hf rfl rm.room ?_ ?_ ?_
  · intro name doc pm an ct W s vs kvs ok h1 h2
    cases h2
    cases h1 with | cons r1 h1 => cases h1 with | nil =>
    rename_i v1
    exact BindsTo.of_eq (binds := [("script", v1)]) rfl _ _ _ _ ⟨W, H, _, Post.refl ok, .cons ⟨rfl, r1⟩ .nil, rfl, rfl⟩
  · rintro ab H' ⟨rfl, rfl⟩
    rfl
  · rintro L ab H' ⟨rfl, rfl⟩ hL
    have rm' := rm.deeper (envOf "_law_seed" (fscope sSd) L f cdv)
    refine as_cons (a1_assign (v := .int 17) (by walk_at "pe") ?_)
    refine as_cons (a1_forK (ae_sliceB default (pe_name rfl) pe_int hl (by decide) fun d hd => ?_))
    intro W s u ok r
    refine wpN_mono (iter_list default (upd_same) W s u ok r) ?_ fun _ _ z => z.elim
    rintro o s' ⟨W', H2, it, rfl, p, hit, rfl⟩
    have hlen : ((ns.take (24 : Int).toNat).map AV.int).length ≤ 24 := by rw [List.length_map, List.length_take]; exact Nat.min_le_left _ _
    have hitd : it ≠ d := fun e => by rw [e, upd_same] at hit; cases hit
    have hit0 : H' it = none := by rw [upd_ne hitd] at hit; exact hit
    refine ⟨W', _, it, rfl, p, fun n m' H2 => ∃ i x, n + i = ((ns.take (24 : Int).toNat).map AV.int).length ∧ 0 ≤ x ∧ m' "seed" = some (.int x) ∧ H2 it = some (default, listIt d i) ∧ H2 d = some (default, .list ((ns.take (24 : Int).toNat).map AV.int)) ∧ Grows H' H2, ⟨_, 0, 17, rfl, by decide, rfl, upd_same, upd_of (Ne.symm hitd) upd_same, ((Grows.refl _).upd hd).upd hit0⟩, ?_⟩
    rintro n m1 H3 ⟨i, x, hn, hx, hm, h1, h2, hG⟩
    rcases Nat.lt_or_ge i ((ns.take (24 : Int).toNat).map AV.int).length with hi | hi
    · obtain ⟨k, hk⟩ : ∃ k, ((ns.take (24 : Int).toNat).map AV.int)[i]? = some (.int k) := by
        rw [List.length_map] at hi
        exact ⟨(ns.take (24 : Int).toNat)[i], by rw [List.getElem?_map, List.getElem?_eq_getElem hi]; rfl⟩
      refine (next_list_item h1 h2 hk).ok (asg_name ?_)
      refine as_cons (a1_assign (pe_mod (pe_add (pe_add (pe_mul (pe_name (by exact hm)) pe_int (by decide)) (pe_mod (pe_call (pe_blt gA bA) con_is keep_builtin (pl_cons (pe_name rfl) pl_nil) cp_abs) pe_int (by decide))) pe_int) pe_int (by decide)) (as_nil ?_))
      refine ⟨n - 1, by omega, i + 1, _, by omega, ?_, rfl, upd_same, upd_of (Ne.symm hitd) h2, hG.upd hit0⟩
      exact Int.fmod_nonneg_of_pos _ (by decide)
    · have hi : i = ((ns.take (24 : Int).toNat).map AV.int).length := by omega
      refine (next_list_end rm'.h h1 h2 (by rw [hi]; simp)).ok ?_
      refine as_cons (a1_returnE (ae_list t (al_cons (ae_pe (pe_name hm) (al_nil ⟨by simp, fun a ha => ?_⟩)))))
      have haN : H' a = none := by
        cases q : H' a with
        | none => rfl
        | some y => have := (hG.drop hit0) a y q; rw [ha] at this; cases this
      exact ⟨a, x, rfl, hx, haN, upd_same, (hG.drop hit0).upd haN⟩
end
theorem law_okB {c : Cx} {A : Around} {H : AHeap} {C1 C2 CN1 CN2 CE : Addr} {f : Addr} {cdv : Value} (hf : FnIs c f "law" (fpars sLa) (fbody sLa) (fscope sLa) .none .none cdv) (hF : LawFns2 c) (hU : GOps c false C1 CN1 CE C2) (hD : GOps c true C2 CN2 CE C2) (hG : LawG c CE C2 C1) (gA : c.mg "abs" = none) (bA : c.mb "abs" = some (.builtin "abs")) (rm : Rm A 10) {l : Addr} {ns : List Int} (hl : BaseL c l ns) :
    CallOk true c A H (.ref f) [.ref l] [] (fun r _ => r = .bool true) (fun _ _ => False) := by
  refine call_fn (P := fun ab H' => ab = ([("script", .ref l)] : List (Str × AV)) ∧ H' = H) hf rfl rm.room ?_ ?_ ?_
  · intro name doc pm an ct W s vs kvs ok h1 h2
    cases h2
    cases h1 with | cons r1 h1 => cases h1 with | nil =>
    rename_i v1
    exact BindsTo.of_eq (binds := [("script", v1)]) rfl _ _ _ _ ⟨W, H, _, Post.refl ok, .cons ⟨rfl, r1⟩ .nil, rfl, rfl⟩
  · rintro ab H' ⟨rfl, rfl⟩
    rfl
  · rintro L ab H' ⟨rfl, rfl⟩ hL
    have rm' := rm.deeper (eLa L f cdv)
    obtain ⟨fs, hGs, hKs, cds, hFs⟩ := hF.seed
    refine as_cons (a1_assignE (ae_call (names := []) (pe_glob hGs) con_is hKs (al_cons (ae_pe (pe_name rfl) (al_nil ⟨[], kw_nil, rfl, ?_⟩)))))
    refine CallOk.mono (seed_okB tLs hFs gA bA (rm'.less (by omega)) hl) ?_ fun _ _ z => z.elim
    rintro r H1 ⟨sa, x, rfl, _, _, hs1, _⟩
    refine as_cons (a1_fortup 53 (vs := [.bool false, .bool true]) rm'.h (fun _ m' H' => m' "s" = some (.ref sa) ∧ ∃ y, H' sa = some (tLs, .list [.int y])) (pe_tuple (pl_cons pe_bool (pl_cons pe_bool pl_nil)) (by simp)) ⟨rfl, x, hs1⟩ ?_ ?_ ?_)
    · rintro i m H2 H3 ⟨z1, y, z2⟩ fr
      exact ⟨z1, y, fr _ _ _ z2 (by decide) (by decide)⟩
    · rintro i v m1 H2 hv ⟨z1, y, z2⟩
      cases i with
      | zero =>
        cases hv
        exact law_body (gid := 1) (dir := false) hF hU rfl hG rm' (by decide) z2 (by exact z1) rfl fun m' H' y' y1 y2 y3 => ⟨⟨y1, y', y2⟩, fun b o hb => y3 b _ o hb rfl⟩
      | succ i => cases i with
        | zero =>
          cases hv
          exact law_body (gid := 4) (dir := true) hF hD rfl hG rm' (by decide) z2 (by exact z1) rfl fun m' H' y' y1 y2 y3 => ⟨⟨y1, y', y2⟩, fun b o hb => y3 b _ o hb rfl⟩
        | succ i => cases hv
    · rintro m1 H2 _
      exact as_cons (a1_return pe_bool rfl)
end Nx
end
section
set_option autoImplicit false
namespace Nx
/-! ### the head, for a walk that may say that no collector's end is below -/
theorem NF.caller : NF true (⟨.builtin "claim.caller" {}, none, none, [], none⟩ : PySem.Ctx) := fun _ => ⟨by decide, fun _ h => nomatch h⟩
/-- a thread of the caller's own, told in wpN -/
theorem thread_endsN {prog : Program} {w : World} {t : Sem Fin} {s : Shared} {R : Result → Shared → Prop} (hreg : s.asleep)
    (h : wpN true (model prog w) callerA t (fun fin s' => ∃ f, fin = .done f ∧ R (.ok f) s' ∧ AllBare s'.gens) (fun e s' => R (.error e) s' ∧ AllBare s'.gens) s) :
    ∃ n r s' s'', runN (denote table) prog w n s ⟨t, .builtin "claim.caller" {}, default, []⟩ = .halted (outcomeOf r) s' ∧
      schedN (denote table) prog w n (.single s ⟨t, .builtin "claim.caller" {}, default, []⟩) = .halted (outcomeOf r) s' ∧ s'.forget = s''.forget ∧ R r s'' := by
  have h0 : Sem.wp (model prog w) ⟨.builtin "claim.caller" {}, none, none, [], none⟩ t (Sem.finPost (model prog w) ⟨.builtin "claim.caller" {}, none, none, [], none⟩ fun r s' => R r s' ∧ leftWithCleanup s'.gens = false)
      (fun e _ s' => R (.error e) s' ∧ leftWithCleanup s'.gens = false) default s := by
    refine Sem.wp_mono _ _ t (fun fin p' s' h' => ?_) (fun e p' s' h' => ?_) default s (h _ default caller_in NF.caller)
    · obtain ⟨f, rfl, a, b⟩ := h'
      exact ⟨a, leftWithCleanup_false_of_bare b⟩
    · exact ⟨h'.1, leftWithCleanup_false_of_bare h'.2⟩
  obtain ⟨n, r, s₁, s₂, hs, hn, hfo, hR⟩ := wp_halts_full (M := model prog w) (R := R) hreg h0
  exact ⟨n, r, s₂, s₁, hn, hs, hfo, hR⟩

abbrev WalkT (q : Program) (loose : List Str) (XP : (Str → Option Value) → Heap → Prop) (YP : World → Heap → Prop) (r : RowW) (d : DefRec) (kwd : List (Str × Expr)) : Prop :=
  ∀ (w : World) (s₀ s₁ : Shared) (mg mb : Str → Option Value), Ground q loose r.records XP w s₀ mg mb s₁.heap → YP w s₁.heap → ∀ (a : Addr) (o : Obj) (pm cd doc dV kV : Value), s₁.heap.get? a = some o →
    o.data = .func { docDef d.name d.params d.body d.scope pm cd doc with defaults := dV, kwdefaults := kV } → s₁.heap.CodeRec cd d.name → Dflts mg s₁.heap d.params kwd dV kV → mg d.name = some (.ref a) → s₁.gens = #[] →
    ∀ (args : List WData) (vals : List Value) (as : List Addr), r.claim.pre args = true → WData.layableAll args = true → ReadsAllW r.records (classAt s₀.heap) s₁.heap vals args as → WellAll w.params s₁.heap vals args → (∀ a ∈ as, (a == sysModules) = false) →
      wpN true (model r.prog w) callerA (PySem.call (.ref a) vals) (fun v s' => GoodWG r.claim (classAt s₀.heap) (ExcName.means s₀.heap) args s₁ (.ok (.ret v)) s')
        (fun e s' => GoodWG r.claim (classAt s₀.heap) (ExcName.means s₀.heap) args s₁ (.error e) s') s₁

theorem PySem.W.holds_open {r : OpenRow} {q : Program} {loose : List Str} {Xt : Shared → Bool} {XP : (Str → Option Value) → Heap → Prop} {α : Type} {Yf : Shared → α} {Ya : World → α} {YP : World → Heap → Prop} {d : DefRec} {kwd : List (Str × Expr)} {N : Nat}
    (left : LeftO r.prog q loose Xt Yf Ya N) (hY : ∀ w s, Yf s = Ya w → YP w s.heap) (hYk : ∀ w h h', YP w h → (∀ b o, h.get? b = some o → h'.get? b = some o) → YP w h')
    (hX : ∀ s, Xt s = true → XP (s.heap.nsMap mainGlobals) s.heap) (hXk : ∀ mg h h', XP mg h → (∀ b o, h.get? b = some o → h'.get? b = some o) → XP mg h')
    (hdef : defOf q r.name = some (d, kwd)) (hp : r.prog.theDef r.name = some (d.params, d.body, d.scope)) (hk : kwWritten? d.params.kwonlyargs d.params.kw_defaults = some kwd) (hRf : ∀ s, Xt s = true → RecFacts r.records s.heap) (hwr : (!r.writes || r.records.isEmpty) = true)
    (k1 : r.wellSaid = true) (ok : (chainsOk q && opensWell r.prog && (frees r.toRowW && r.within.isEmpty)) = true) (hb : r.prog.bare) (hw : r.toRowW.promised)
    (call : WalkT q loose XP YP r.toRowW d kwd) : r.Holds := by
  simp only [Bool.and_eq_true] at ok
  obtain ⟨⟨hch, o1⟩, k5, k6⟩ := ok
  obtain ⟨hsame, hu, ha, hap, hm⟩ := frees_parts k5
  refine ⟨k1, hw, ⟨hb, o1, by show r.toRowW.makers.map _ = []; rw [hm]; rfl⟩, hw.witness, fun w => ⟨(left.behind hX hch w).1, fun s' hs' => ?_⟩⟩
  obtain ⟨s₀, hf, hg0, s, hT, hz, hgens, hg, G00, y⟩ := (left.behind (XP := fun mg h => XP mg h ∧ RecFacts r.records h) (fun s hs => ⟨hX s hs, hRf s hs⟩) hch w).2 s' hs'
  have G0 : Ground q loose [] XP w s (s.heap.nsMap mainGlobals) (s.heap.nsMap builtinsNs) s.heap := { G00 with X := G00.X.1 }
  have RF := G00.X.2
  refine ⟨s₀, hf, hg0, s, hT, fun n hn => ?_, RF.1, RF.2.1, ?_⟩
  · obtain rfl : n = r.name := by split at hn <;> simp_all
    exact pinned_of_view hg G0 hdef hp hk
  have hgens : s.gens = #[] := Array.eq_empty_of_size_eq_zero (beq_iff_eq.mp hgens)
  have G : Ground q loose r.records XP w s _ _ s.heap := RF.ground G0
  intro args hpre hlay ord hord
  obtain ⟨⟨vs, s₁⟩, hlaid⟩ := Option.isSome_iff_exists.mp (layAllW_isSome (P := w.params) (ord := ord) G.has args r.args s (pre_splitW hpre).1)
  have keeps := layAllW_keeps _ _ _ hlaid
  have hal := layAllW_rest _ _ _ hlaid
  obtain ⟨as, hrd, hin, hold⟩ := reads_layAllW hord _ _ _ hlaid hlay s₁.heap (fun _ _ e => e)
  have L : Laid r.records w s s₁ args vs as := ⟨⟨ord, hord, hlaid⟩, hrd, hin, hold, keeps, hal.1.trans hgens, hal.2.2.1⟩
  have G₁ := G.keeps hXk keeps
  obtain ⟨a, o, pm, cd, doc, dV, kV, h1, h2, h3, h4, h5⟩ := G₁.fn hdef
  have hcall := call w s s₁ _ _ G₁ (hYk _ _ _ (hY w s y) keeps) a o pm cd doc dV kV h2 h3 h4 h5 (defOf_name hdef ▸ h1) L.gens args vs as hpre hlay L.reads L.well (L.low G.low)
  have hi := ident_freeW hu ha hap
  have hwi : r.toRowW.claim.within = [] := List.isEmpty_iff.mp k6
  have hreg : s₁.asleep := Shared.asleep_of_life hal.2.2.2 hz
  have fin : ∀ res s', GoodWG r.toRowW.claim (classAt s.heap) (ExcName.means s.heap) args s₁ res s' → (r.toRowW.claim.Ends s args vs s₁ res s' ∧ s'.os = s.os ∧
      (r.writes = true → namesKept r.prog r.keeps s.heap s'.heap ∧ ∀ x ∈ r.toRowW.claim.records, ∀ a, classAt s.heap x.1 = some a → recordClass s'.heap a x.1 (x.2.map (·.1)) = true)) ∧ AllBare s'.gens := fun res s' g => by
    have z := g.laid (c := r.toRowW.claim) hsame hwi hi L
    exact ⟨⟨z.1, z.2.1, fun q => ⟨namesKept_of hT hg r.keeps keeps g.2.1.old, noTable hwr q⟩⟩, z.2.2⟩
  have htree : wpN true (model r.prog w) callerA (do match ← nsGet mainNs r.name with
      | some f => do ret (← PySem.call f vs)
      | none => unsupported "claim.caller:no-such-global") (fun fin s' => ∃ f, fin = .done f ∧ (r.toRowW.claim.Ends s args vs s₁ (.ok f) s' ∧ s'.os = s.os ∧ (r.writes = true → namesKept r.prog r.keeps s.heap s'.heap ∧ ∀ x ∈ r.toRowW.claim.records, ∀ a, classAt s.heap x.1 = some a → recordClass s'.heap a x.1 (x.2.map (·.1)) = true)) ∧ AllBare s'.gens)
      (fun e s' => (r.toRowW.claim.Ends s args vs s₁ (.error e) s' ∧ s'.os = s.os ∧ (r.writes = true → namesKept r.prog r.keeps s.heap s'.heap ∧ ∀ x ∈ r.toRowW.claim.records, ∀ a, classAt s.heap x.1 = some a → recordClass s'.heap a x.1 (x.2.map (·.1)) = true)) ∧ AllBare s'.gens) s₁ := by
    refine wpN_then (wpAny_nsGet G₁.T.g ?_)
    rw [h1]
    exact wpN_bind (wpN_mono hcall (fun v s' g => wpN_pure ⟨_, rfl, fin _ _ g⟩) fun e s' g => fin _ _ g)
  obtain ⟨k, res, s', s'', hrun, hsched, hfo, ⟨hcase, hos, hkp⟩⟩ := thread_endsN (prog := r.prog) (w := w) (s := s₁)
    (R := fun res s' => r.toRowW.claim.Ends s args vs s₁ res s' ∧ s'.os = s.os ∧ (r.writes = true → namesKept r.prog r.keeps s.heap s'.heap ∧ ∀ x ∈ r.toRowW.claim.records, ∀ a, classAt s.heap x.1 = some a → recordClass s'.heap a x.1 (x.2.map (·.1)) = true)) hreg htree
  obtain ⟨eh, _, _, eo, _⟩ := Shared.forget_eq hfo
  have hcase := hcase.congr eh
  rw [← eh] at hkp
  rw [← eo] at hos
  have hlife : s'.heap.life = s.heap.life := (runN_life _ _ _ hrun).trans hal.2.2.2
  refine ⟨vs, s₁, hlaid, k, _, s', hsched, ?_, (fun _ i x hx => by rw [hgens] at hx; simp at hx), hkp, by rw [hlife], Shared.rest_eq hos⟩
  rcases hcase with ⟨v, rfl, d1, d2, d3, d4, d5⟩ | ⟨e, ob, cls, rfl, d1, d2, d3, d4, d5⟩
  · exact .inl ⟨v, rfl, d1, d2, d3, fun b o y _ => d4 b o y, d5⟩
  · exact .inr ⟨e, ob, cls, rfl, d1, d2, d3, d4, fun b o y _ => d5 b o y⟩
end Nx
end
section
set_option maxHeartbeats 8000000
namespace Nx
theorem light {P : Prop} (hw : True) (hc : P) : P := (fun _ => hc) hw
local macro_rules | `(tactic| o_head ($_f $_K $_as $_e)) => `(tactic| apply light)
local macro_rules | `(tactic| w_witness2) => `(tactic| exact trivial)
open_top kk for PySem.Challenge.rw_ci0023_01.row
end Nx
end
section
set_option autoImplicit false
namespace Nx
def fdOf (K : Frag) (f : Addr) : FuncData := match K.lookup f with
  | some ⟨_, _, .func fd, _⟩ => fd
  | _ => default
def obOf (K : Frag) (a : Addr) : Obj := (K.lookup a).getD default
theorem FnIs.ofK {c : Cx} {K : Frag} (hK : c.K = K) {f : Addr} {qual : Str} {params : Arguments} {body : List Stmt} {scope : Scope} {dV kV cdv : Value} (h0 : fnIn K f = true)
    (h1 : fdOf K f = fnOf (fdOf K f).name qual params body scope dV kV (fdOf K f).doc (fdOf K f).pyModule (fdOf K f).annotations cdv (fdOf K f).closureTuple)
    (h2 : codeIn K cdv qual = true) (h3 : scope.isCoroutine = false) (h4 : scope.kind = .function) (h5 : (scope.names.all fun x => x.2 != .cell) = true) : FnIs c f qual params body scope dV kV cdv := by
  subst hK
  refine ⟨?_, h2, h3, h4, h5⟩
  unfold fnIn at h0
  split at h0
  · rename_i fd _ hk
    have : fdOf c.K f = fd := by unfold fdOf; rw [hk]
    rw [this] at h1
    rw [h1] at hk
    exact ⟨_, _, _, _, _, _, _, _, hk⟩
  · cases h0
/-- what is known of the heap at the call -/
structure CxK (c : Cx) : Prop where
  hK : c.K = kk.heap_1 c.w.params
  hB : ∀ x : Str, x ≠ "__name__" → c.mb x = bootBuiltins x
  hT : ((520, 516) : Addr × Addr) ∈ c.tabs
  hE : OwnCls "NetworkXError" 200 [.type "Exception", .type "BaseException", .type "object"] "Exception.__new__" c.mg c.base
section
variable {c : Cx} (h : CxK c)
include h
theorem CxK.X : c.K.In c.base := fun a o e => (c.kin a o e).1
theorem CxK.glob {x : Str} {v : Value} (e : nsIn c.K mainGlobals x = some (some v)) : c.mg x = some v := mg_of h.X c.gns e
theorem CxK.gnone {x : Str} (e : nsIn c.K mainGlobals x = some none) : c.mg x = none := mg_none_of h.X c.gns e

theorem CxK.f_nodeD : FnIs c 261 "Graph.node_dict_factory" (fpars (gB 0)) (fbody (gB 0)) (fscope (gB 0)) .none .none (.ref 260) := .ofK h.hK (by kernel_rfl) (by kernel_rfl) (by kernel_rfl) (by kernel_rfl) (by kernel_rfl) (by kernel_rfl)
theorem CxK.f_nodeA : FnIs c 268 "Graph.node_attr_dict_factory" (fpars (gB 1)) (fbody (gB 1)) (fscope (gB 1)) .none .none (.ref 267) := .ofK h.hK (by kernel_rfl) (by kernel_rfl) (by kernel_rfl) (by kernel_rfl) (by kernel_rfl) (by kernel_rfl)
theorem CxK.f_adjO : FnIs c 275 "Graph.adjlist_outer_dict_factory" (fpars (gB 2)) (fbody (gB 2)) (fscope (gB 2)) .none .none (.ref 274) := .ofK h.hK (by kernel_rfl) (by kernel_rfl) (by kernel_rfl) (by kernel_rfl) (by kernel_rfl) (by kernel_rfl)
theorem CxK.f_adjI : FnIs c 282 "Graph.adjlist_inner_dict_factory" (fpars (gB 3)) (fbody (gB 3)) (fscope (gB 3)) .none .none (.ref 281) := .ofK h.hK (by kernel_rfl) (by kernel_rfl) (by kernel_rfl) (by kernel_rfl) (by kernel_rfl) (by kernel_rfl)
theorem CxK.f_edgeA : FnIs c 289 "Graph.edge_attr_dict_factory" (fpars (gB 4)) (fbody (gB 4)) (fscope (gB 4)) .none .none (.ref 288) := .ofK h.hK (by kernel_rfl) (by kernel_rfl) (by kernel_rfl) (by kernel_rfl) (by kernel_rfl) (by kernel_rfl)
theorem CxK.f_graphA : FnIs c 296 "Graph.graph_attr_dict_factory" (fpars (gB 5)) (fbody (gB 5)) (fscope (gB 5)) .none .none (.ref 295) := .ofK h.hK (by kernel_rfl) (by kernel_rfl) (by kernel_rfl) (by kernel_rfl) (by kernel_rfl) (by kernel_rfl)
theorem CxK.f_fresh : FnIs c 303 "Graph.fresh" (fpars (sFr)) (fbody (sFr)) (fscope (sFr)) .none .none (.ref 302) := .ofK h.hK (by kernel_rfl) (by kernel_rfl) (by kernel_rfl) (by kernel_rfl) (by kernel_rfl) (by kernel_rfl)
theorem CxK.f_init : FnIs c 311 "Graph.__init__" (fpars (sGI)) (fbody (sGI)) (fscope (sGI)) (.ref 304) .none (.ref 310) := .ofK h.hK (by kernel_rfl) (by kernel_rfl) (by kernel_rfl) (by kernel_rfl) (by kernel_rfl) (by kernel_rfl)
theorem CxK.f_adj : FnIs c 318 "Graph.adj" (fpars (sGA)) (fbody (sGA)) (fscope (sGA)) .none .none (.ref 317) := .ofK h.hK (by kernel_rfl) (by kernel_rfl) (by kernel_rfl) (by kernel_rfl) (by kernel_rfl) (by kernel_rfl)
theorem CxK.f_cont : FnIs c 335 "Graph.__contains__" (fpars (sCo)) (fbody (sCo)) (fscope (sCo)) .none .none (.ref 334) := .ofK h.hK (by kernel_rfl) (by kernel_rfl) (by kernel_rfl) (by kernel_rfl) (by kernel_rfl) (by kernel_rfl)
theorem CxK.f_geti : FnIs c 349 "Graph.__getitem__" (fpars (sGG)) (fbody (sGG)) (fscope (sGG)) .none .none (.ref 348) := .ofK h.hK (by kernel_rfl) (by kernel_rfl) (by kernel_rfl) (by kernel_rfl) (by kernel_rfl) (by kernel_rfl)
theorem CxK.f_addN : FnIs c 363 "Graph.add_nodes_from" (fpars (sAN)) (fbody (sAN)) (fscope (sAN)) .none .none (.ref 362) := .ofK h.hK (by kernel_rfl) (by kernel_rfl) (by kernel_rfl) (by kernel_rfl) (by kernel_rfl) (by kernel_rfl)
theorem CxK.f_nodes : FnIs c 384 "Graph.nodes" (fpars (sND)) (fbody (sND)) (fscope (sND)) .none .none (.ref 383) := .ofK h.hK (by kernel_rfl) (by kernel_rfl) (by kernel_rfl) (by kernel_rfl) (by kernel_rfl) (by kernel_rfl)
theorem CxK.f_add1 : FnIs c 415 "Graph.add_edge" (fpars (sAE)) (fbody (sAE)) (fscope (sAE)) .none .none (.ref 414) := .ofK h.hK (by kernel_rfl) (by kernel_rfl) (by kernel_rfl) (by kernel_rfl) (by kernel_rfl) (by kernel_rfl)
theorem CxK.f_addE : FnIs c 422 "Graph.add_edges_from" (fpars (sAF)) (fbody (sAF)) (fscope (sAF)) .none .none (.ref 421) := .ofK h.hK (by kernel_rfl) (by kernel_rfl) (by kernel_rfl) (by kernel_rfl) (by kernel_rfl) (by kernel_rfl)
theorem CxK.f_hasE : FnIs c 443 "Graph.has_edge" (fpars (sHE)) (fbody (sHE)) (fscope (sHE)) .none .none (.ref 442) := .ofK h.hK (by kernel_rfl) (by kernel_rfl) (by kernel_rfl) (by kernel_rfl) (by kernel_rfl) (by kernel_rfl)
theorem CxK.f_nbr : FnIs c 450 "Graph.neighbors" (fpars (sNb)) (fbody (sNb)) (fscope (sNb)) .none .none (.ref 449) := .ofK h.hK (by kernel_rfl) (by kernel_rfl) (by kernel_rfl) (by kernel_rfl) (by kernel_rfl) (by kernel_rfl)
theorem CxK.f_copy : FnIs c 521 "Graph.copy" (fpars (sCp)) (fbody (sCp)) (fscope (sCp)) (.ref 514) .none (.ref 520) := .ofK h.hK (by kernel_rfl) (by kernel_rfl) (by kernel_rfl) (by kernel_rfl) (by kernel_rfl) (by kernel_rfl)
theorem CxK.f_dfresh : FnIs c 562 "DiGraph.fresh" (fpars (sFrd)) (fbody (sFrd)) (fscope (sFrd)) .none .none (.ref 561) := .ofK h.hK (by kernel_rfl) (by kernel_rfl) (by kernel_rfl) (by kernel_rfl) (by kernel_rfl) (by kernel_rfl)
theorem CxK.f_dinit : FnIs c 570 "DiGraph.__init__" (fpars (sGId)) (fbody (sGId)) (fscope (sGId)) (.ref 563) .none (.ref 569) := .ofK h.hK (by kernel_rfl) (by kernel_rfl) (by kernel_rfl) (by kernel_rfl) (by kernel_rfl) (by kernel_rfl)
theorem CxK.f_dadj : FnIs c 577 "DiGraph.adj" (fpars (sDA)) (fbody (sDA)) (fscope (sDA)) .none .none (.ref 576) := .ofK h.hK (by kernel_rfl) (by kernel_rfl) (by kernel_rfl) (by kernel_rfl) (by kernel_rfl) (by kernel_rfl)
theorem CxK.f_daddN : FnIs c 614 "DiGraph.add_nodes_from" (fpars (sANd)) (fbody (sANd)) (fscope (sANd)) .none .none (.ref 613) := .ofK h.hK (by kernel_rfl) (by kernel_rfl) (by kernel_rfl) (by kernel_rfl) (by kernel_rfl) (by kernel_rfl)
theorem CxK.f_dadd1 : FnIs c 635 "DiGraph.add_edge" (fpars (sAEd)) (fbody (sAEd)) (fscope (sAEd)) .none .none (.ref 634) := .ofK h.hK (by kernel_rfl) (by kernel_rfl) (by kernel_rfl) (by kernel_rfl) (by kernel_rfl) (by kernel_rfl)
theorem CxK.f_daddE : FnIs c 642 "DiGraph.add_edges_from" (fpars (sAFd)) (fbody (sAFd)) (fscope (sAFd)) .none .none (.ref 641) := .ofK h.hK (by kernel_rfl) (by kernel_rfl) (by kernel_rfl) (by kernel_rfl) (by kernel_rfl) (by kernel_rfl)
theorem CxK.f_succ : FnIs c 677 "DiGraph.successors" (fpars (sNbd)) (fbody (sNbd)) (fscope (sNbd)) .none .none (.ref 676) := .ofK h.hK (by kernel_rfl) (by kernel_rfl) (by kernel_rfl) (by kernel_rfl) (by kernel_rfl) (by kernel_rfl)
theorem CxK.f_vinit : FnIs c 36 "NodeView.__init__" (fpars (sVI)) (fbody (sVI)) (fscope (sVI)) .none .none (.ref 35) := .ofK h.hK (by kernel_rfl) (by kernel_rfl) (by kernel_rfl) (by kernel_rfl) (by kernel_rfl) (by kernel_rfl)
theorem CxK.f_vlen : FnIs c 43 "NodeView.__len__" (fpars (sVL)) (fbody (sVL)) (fscope (sVL)) .none .none (.ref 42) := .ofK h.hK (by kernel_rfl) (by kernel_rfl) (by kernel_rfl) (by kernel_rfl) (by kernel_rfl) (by kernel_rfl)
theorem CxK.f_viter : FnIs c 50 "NodeView.__iter__" (fpars (sVIt)) (fbody (sVIt)) (fscope (sVIt)) .none .none (.ref 49) := .ofK h.hK (by kernel_rfl) (by kernel_rfl) (by kernel_rfl) (by kernel_rfl) (by kernel_rfl) (by kernel_rfl)
theorem CxK.f_vget : FnIs c 57 "NodeView.__getitem__" (fpars (sVG)) (fbody (sVG)) (fscope (sVG)) .none .none (.ref 56) := .ofK h.hK (by kernel_rfl) (by kernel_rfl) (by kernel_rfl) (by kernel_rfl) (by kernel_rfl) (by kernel_rfl)
theorem CxK.f_cget : FnIs c 232 "cached_property.__get__" (fpars (sGet)) (fbody (sGet)) (fscope (sGet)) (.ref 225) .none (.ref 231) := .ofK h.hK (by kernel_rfl) (by kernel_rfl) (by kernel_rfl) (by kernel_rfl) (by kernel_rfl) (by kernel_rfl)
theorem CxK.f_lseed : FnIs c 771 "_law_seed" (fpars (sSd)) (fbody (sSd)) (fscope (sSd)) .none .none (.ref 770) := .ofK h.hK (by kernel_rfl) (by kernel_rfl) (by kernel_rfl) (by kernel_rfl) (by kernel_rfl) (by kernel_rfl)
theorem CxK.f_lnext : FnIs c 778 "_law_next" (fpars (sNext)) (fbody (sNext)) (fscope (sNext)) .none .none (.ref 777) := .ofK h.hK (by kernel_rfl) (by kernel_rfl) (by kernel_rfl) (by kernel_rfl) (by kernel_rfl) (by kernel_rfl)
theorem CxK.f_lput : FnIs c 785 "_law_put" (fpars (sPut)) (fbody (sPut)) (fscope (sPut)) .none .none (.ref 784) := .ofK h.hK (by kernel_rfl) (by kernel_rfl) (by kernel_rfl) (by kernel_rfl) (by kernel_rfl) (by kernel_rfl)
theorem CxK.f_ldeed : FnIs c 792 "_law_deed" (fpars (sDe)) (fbody (sDe)) (fscope (sDe)) .none .none (.ref 791) := .ofK h.hK (by kernel_rfl) (by kernel_rfl) (by kernel_rfl) (by kernel_rfl) (by kernel_rfl) (by kernel_rfl)
theorem CxK.f_lsame : FnIs c 799 "_law_same" (fpars (sSm)) (fbody (sSm)) (fscope (sSm)) .none .none (.ref 798) := .ofK h.hK (by kernel_rfl) (by kernel_rfl) (by kernel_rfl) (by kernel_rfl) (by kernel_rfl) (by kernel_rfl)
theorem CxK.f_law : FnIs c 806 "law" (fpars (sLa)) (fbody (sLa)) (fscope (sLa)) .none .none (.ref 805) := .ofK h.hK (by kernel_rfl) (by kernel_rfl) (by kernel_rfl) (by kernel_rfl) (by kernel_rfl) (by kernel_rfl)
theorem CxK.cls_540 : ClsOk c 540 := ⟨(by rw [h.hK]; kernel_rfl), (by rw [h.hK]; kernel_rfl), (by rw [h.hK]; kernel_rfl)⟩
theorem CxK.cls_755 : ClsOk c 755 := ⟨(by rw [h.hK]; kernel_rfl), (by rw [h.hK]; kernel_rfl), (by rw [h.hK]; kernel_rfl)⟩
theorem CxK.cls_242 : ClsOk c 242 := ⟨(by rw [h.hK]; kernel_rfl), (by rw [h.hK]; kernel_rfl), (by rw [h.hK]; kernel_rfl)⟩
theorem CxK.sets_540 : SetsOk c 540 := ⟨(by rw [h.hK]; kernel_rfl), (by rw [h.hK]; kernel_rfl), (by rw [h.hK]; kernel_rfl)⟩
theorem CxK.yl_540_0 : Yields c 540 "graph" := ⟨h.cls_540, none, none, (by rw [h.hK]; kernel_rfl), rfl, rfl⟩
theorem CxK.yl_540_1 : Yields c 540 "_node" := ⟨h.cls_540, none, none, (by rw [h.hK]; kernel_rfl), rfl, rfl⟩
theorem CxK.yl_540_2 : Yields c 540 "_adj" := ⟨h.cls_540, none, none, (by rw [h.hK]; kernel_rfl), rfl, rfl⟩
theorem CxK.yl_540_3 : Yields c 540 "_succ" := ⟨h.cls_540, none, none, (by rw [h.hK]; kernel_rfl), rfl, rfl⟩
theorem CxK.yl_540_4 : Yields c 540 "_pred" := ⟨h.cls_540, none, none, (by rw [h.hK]; kernel_rfl), rfl, rfl⟩
theorem CxK.yl_540_5 : Yields c 540 "nodes" := ⟨h.cls_540, some (.ref 386), some (.ref 232), (by rw [h.hK]; kernel_rfl), by show specialIn c.K (.ref 386) "__get__" = _; rw [h.hK]; kernel_rfl, by show takesIn c.K (.ref 386) = _; rw [h.hK]; kernel_rfl⟩
theorem CxK.yl_540_6 : Yields c 540 "adj" := ⟨h.cls_540, some (.ref 320), some (.ref 232), (by rw [h.hK]; kernel_rfl), by show specialIn c.K (.ref 320) "__get__" = _; rw [h.hK]; kernel_rfl, by show takesIn c.K (.ref 320) = _; rw [h.hK]; kernel_rfl⟩
theorem CxK.sets_755 : SetsOk c 755 := ⟨(by rw [h.hK]; kernel_rfl), (by rw [h.hK]; kernel_rfl), (by rw [h.hK]; kernel_rfl)⟩
theorem CxK.yl_755_0 : Yields c 755 "graph" := ⟨h.cls_755, none, none, (by rw [h.hK]; kernel_rfl), rfl, rfl⟩
theorem CxK.yl_755_1 : Yields c 755 "_node" := ⟨h.cls_755, none, none, (by rw [h.hK]; kernel_rfl), rfl, rfl⟩
theorem CxK.yl_755_2 : Yields c 755 "_adj" := ⟨h.cls_755, none, none, (by rw [h.hK]; kernel_rfl), rfl, rfl⟩
theorem CxK.yl_755_3 : Yields c 755 "_succ" := ⟨h.cls_755, none, none, (by rw [h.hK]; kernel_rfl), rfl, rfl⟩
theorem CxK.yl_755_4 : Yields c 755 "_pred" := ⟨h.cls_755, none, none, (by rw [h.hK]; kernel_rfl), rfl, rfl⟩
theorem CxK.yl_755_5 : Yields c 755 "nodes" := ⟨h.cls_755, some (.ref 386), some (.ref 232), (by rw [h.hK]; kernel_rfl), by show specialIn c.K (.ref 386) "__get__" = _; rw [h.hK]; kernel_rfl, by show takesIn c.K (.ref 386) = _; rw [h.hK]; kernel_rfl⟩
theorem CxK.yl_755_6 : Yields c 755 "adj" := ⟨h.cls_755, some (.ref 579), some (.ref 232), (by rw [h.hK]; kernel_rfl), by show specialIn c.K (.ref 579) "__get__" = _; rw [h.hK]; kernel_rfl, by show takesIn c.K (.ref 579) = _; rw [h.hK]; kernel_rfl⟩
theorem CxK.m_540_adjI : MethIs c 540 "adjlist_inner_dict_factory" 282 := ⟨h.cls_540, (by rw [h.hK]; kernel_rfl), (by rw [h.hK]; kernel_rfl)⟩
theorem CxK.m_540_nodeA : MethIs c 540 "node_attr_dict_factory" 268 := ⟨h.cls_540, (by rw [h.hK]; kernel_rfl), (by rw [h.hK]; kernel_rfl)⟩
theorem CxK.m_540_edgeA : MethIs c 540 "edge_attr_dict_factory" 289 := ⟨h.cls_540, (by rw [h.hK]; kernel_rfl), (by rw [h.hK]; kernel_rfl)⟩
theorem CxK.m_540_graphA : MethIs c 540 "graph_attr_dict_factory" 296 := ⟨h.cls_540, (by rw [h.hK]; kernel_rfl), (by rw [h.hK]; kernel_rfl)⟩
theorem CxK.m_540_nodeD : MethIs c 540 "node_dict_factory" 261 := ⟨h.cls_540, (by rw [h.hK]; kernel_rfl), (by rw [h.hK]; kernel_rfl)⟩
theorem CxK.m_540_adjO : MethIs c 540 "adjlist_outer_dict_factory" 275 := ⟨h.cls_540, (by rw [h.hK]; kernel_rfl), (by rw [h.hK]; kernel_rfl)⟩
theorem CxK.m_540_fresh : MethIs c 540 "fresh" 303 := ⟨h.cls_540, (by rw [h.hK]; kernel_rfl), (by rw [h.hK]; kernel_rfl)⟩
theorem CxK.m_540_addN : MethIs c 540 "add_nodes_from" 363 := ⟨h.cls_540, (by rw [h.hK]; kernel_rfl), (by rw [h.hK]; kernel_rfl)⟩
theorem CxK.m_540_addE : MethIs c 540 "add_edges_from" 422 := ⟨h.cls_540, (by rw [h.hK]; kernel_rfl), (by rw [h.hK]; kernel_rfl)⟩
theorem CxK.m_540_add1 : MethIs c 540 "add_edge" 415 := ⟨h.cls_540, (by rw [h.hK]; kernel_rfl), (by rw [h.hK]; kernel_rfl)⟩
theorem CxK.m_540_copy : MethIs c 540 "copy" 521 := ⟨h.cls_540, (by rw [h.hK]; kernel_rfl), (by rw [h.hK]; kernel_rfl)⟩
theorem CxK.m_540_hasE : MethIs c 540 "has_edge" 443 := ⟨h.cls_540, (by rw [h.hK]; kernel_rfl), (by rw [h.hK]; kernel_rfl)⟩
theorem CxK.m_540_nbr : MethIs c 540 "neighbors" 450 := ⟨h.cls_540, (by rw [h.hK]; kernel_rfl), (by rw [h.hK]; kernel_rfl)⟩
theorem CxK.m_755_adjI : MethIs c 755 "adjlist_inner_dict_factory" 282 := ⟨h.cls_755, (by rw [h.hK]; kernel_rfl), (by rw [h.hK]; kernel_rfl)⟩
theorem CxK.m_755_nodeA : MethIs c 755 "node_attr_dict_factory" 268 := ⟨h.cls_755, (by rw [h.hK]; kernel_rfl), (by rw [h.hK]; kernel_rfl)⟩
theorem CxK.m_755_edgeA : MethIs c 755 "edge_attr_dict_factory" 289 := ⟨h.cls_755, (by rw [h.hK]; kernel_rfl), (by rw [h.hK]; kernel_rfl)⟩
theorem CxK.m_755_graphA : MethIs c 755 "graph_attr_dict_factory" 296 := ⟨h.cls_755, (by rw [h.hK]; kernel_rfl), (by rw [h.hK]; kernel_rfl)⟩
theorem CxK.m_755_nodeD : MethIs c 755 "node_dict_factory" 261 := ⟨h.cls_755, (by rw [h.hK]; kernel_rfl), (by rw [h.hK]; kernel_rfl)⟩
theorem CxK.m_755_adjO : MethIs c 755 "adjlist_outer_dict_factory" 275 := ⟨h.cls_755, (by rw [h.hK]; kernel_rfl), (by rw [h.hK]; kernel_rfl)⟩
theorem CxK.m_755_dfresh : MethIs c 755 "fresh" 562 := ⟨h.cls_755, (by rw [h.hK]; kernel_rfl), (by rw [h.hK]; kernel_rfl)⟩
theorem CxK.m_755_daddN : MethIs c 755 "add_nodes_from" 614 := ⟨h.cls_755, (by rw [h.hK]; kernel_rfl), (by rw [h.hK]; kernel_rfl)⟩
theorem CxK.m_755_daddE : MethIs c 755 "add_edges_from" 642 := ⟨h.cls_755, (by rw [h.hK]; kernel_rfl), (by rw [h.hK]; kernel_rfl)⟩
theorem CxK.m_755_dadd1 : MethIs c 755 "add_edge" 635 := ⟨h.cls_755, (by rw [h.hK]; kernel_rfl), (by rw [h.hK]; kernel_rfl)⟩
theorem CxK.m_755_copy : MethIs c 755 "copy" 521 := ⟨h.cls_755, (by rw [h.hK]; kernel_rfl), (by rw [h.hK]; kernel_rfl)⟩
theorem CxK.m_755_hasE : MethIs c 755 "has_edge" 443 := ⟨h.cls_755, (by rw [h.hK]; kernel_rfl), (by rw [h.hK]; kernel_rfl)⟩
theorem CxK.m_755_succ : MethIs c 755 "neighbors" 677 := ⟨h.cls_755, (by rw [h.hK]; kernel_rfl), (by rw [h.hK]; kernel_rfl)⟩
theorem CxK.fac_adjI : Fac c 282 := fac_of h.f_adjI (by kernel_rfl) ⟨_, _, rfl⟩ (fun _ _ _ _ _ _ => rfl) (by kernel_rfl)
theorem CxK.fac_nodeA : Fac c 268 := fac_of h.f_nodeA (by kernel_rfl) ⟨_, _, rfl⟩ (fun _ _ _ _ _ _ => rfl) (by kernel_rfl)
theorem CxK.fac_edgeA : Fac c 289 := fac_of h.f_edgeA (by kernel_rfl) ⟨_, _, rfl⟩ (fun _ _ _ _ _ _ => rfl) (by kernel_rfl)
theorem CxK.fac_graphA : Fac c 296 := fac_of h.f_graphA (by kernel_rfl) ⟨_, _, rfl⟩ (fun _ _ _ _ _ _ => rfl) (by kernel_rfl)
theorem CxK.fac_nodeD : Fac c 261 := fac_of h.f_nodeD (by kernel_rfl) ⟨_, _, rfl⟩ (fun _ _ _ _ _ _ => rfl) (by kernel_rfl)
theorem CxK.fac_adjO : Fac c 275 := fac_of h.f_adjO (by kernel_rfl) ⟨_, _, rfl⟩ (fun _ _ _ _ _ _ => rfl) (by kernel_rfl)
theorem CxK.kls_540 : Kls c false 540 76 where
  cls := h.cls_540
  sets := h.sets_540
  yl := List.forall_mem_cons.mpr ⟨h.yl_540_0, List.forall_mem_cons.mpr ⟨h.yl_540_1, List.forall_mem_cons.mpr ⟨h.yl_540_2, List.forall_mem_cons.mpr ⟨h.yl_540_3, List.forall_mem_cons.mpr ⟨h.yl_540_4, List.forall_mem_cons.mpr ⟨h.yl_540_5, List.forall_mem_cons.mpr ⟨h.yl_540_6, fun _ z => nomatch z⟩⟩⟩⟩⟩⟩⟩
  adjF := ⟨_, h.m_540_adjI, h.fac_adjI⟩
  nodeF := ⟨_, h.m_540_nodeA, h.fac_nodeA⟩
  edgeF := ⟨_, h.m_540_edgeA, h.fac_edgeA⟩
  graphF := ⟨_, h.m_540_graphA, h.fac_graphA⟩
  nodesF := ⟨_, h.m_540_nodeD, h.fac_nodeD⟩
  outerF := ⟨_, h.m_540_adjO, h.fac_adjO⟩
  tk := List.forall_mem_cons.mpr ⟨(by rw [h.hK]; kernel_rfl), List.forall_mem_cons.mpr ⟨(by rw [h.hK]; kernel_rfl), List.forall_mem_cons.mpr ⟨(by rw [h.hK]; kernel_rfl), List.forall_mem_cons.mpr ⟨(by rw [h.hK]; kernel_rfl), List.forall_mem_cons.mpr ⟨(by rw [h.hK]; kernel_rfl), fun _ z => nomatch z⟩⟩⟩⟩⟩
theorem CxK.dict_540 : DictIs c 540 541 540 := ⟨h.cls_540, (by rw [h.hK]; kernel_rfl), (by rw [h.hK]; kernel_rfl), (by rw [h.hK]; kernel_rfl), (by rw [h.hK]; kernel_rfl), (by rw [h.hK]; kernel_rfl), ⟨873, (by rw [h.hK]; kernel_rfl)⟩, (by rw [h.hK]; kernel_rfl), (by rw [h.hK]; kernel_rfl), (by rw [h.hK]; kernel_rfl)⟩
theorem CxK.kls_755 : Kls c true 755 76 where
  cls := h.cls_755
  sets := h.sets_755
  yl := List.forall_mem_cons.mpr ⟨h.yl_755_0, List.forall_mem_cons.mpr ⟨h.yl_755_1, List.forall_mem_cons.mpr ⟨h.yl_755_2, List.forall_mem_cons.mpr ⟨h.yl_755_3, List.forall_mem_cons.mpr ⟨h.yl_755_4, List.forall_mem_cons.mpr ⟨h.yl_755_5, List.forall_mem_cons.mpr ⟨h.yl_755_6, fun _ z => nomatch z⟩⟩⟩⟩⟩⟩⟩
  adjF := ⟨_, h.m_755_adjI, h.fac_adjI⟩
  nodeF := ⟨_, h.m_755_nodeA, h.fac_nodeA⟩
  edgeF := ⟨_, h.m_755_edgeA, h.fac_edgeA⟩
  graphF := ⟨_, h.m_755_graphA, h.fac_graphA⟩
  nodesF := ⟨_, h.m_755_nodeD, h.fac_nodeD⟩
  outerF := ⟨_, h.m_755_adjO, h.fac_adjO⟩
  tk := List.forall_mem_cons.mpr ⟨(by rw [h.hK]; kernel_rfl), List.forall_mem_cons.mpr ⟨(by rw [h.hK]; kernel_rfl), List.forall_mem_cons.mpr ⟨(by rw [h.hK]; kernel_rfl), List.forall_mem_cons.mpr ⟨(by rw [h.hK]; kernel_rfl), List.forall_mem_cons.mpr ⟨(by rw [h.hK]; kernel_rfl), fun _ z => nomatch z⟩⟩⟩⟩⟩
theorem CxK.dict_755 : DictIs c 755 541 540 := ⟨h.cls_755, (by rw [h.hK]; kernel_rfl), (by rw [h.hK]; kernel_rfl), (by rw [h.hK]; kernel_rfl), (by rw [h.hK]; kernel_rfl), (by rw [h.hK]; kernel_rfl), ⟨873, (by rw [h.hK]; kernel_rfl)⟩, (by rw [h.hK]; kernel_rfl), (by rw [h.hK]; kernel_rfl), (by rw [h.hK]; kernel_rfl)⟩
theorem CxK.cache_540_nodes : CacheFn c 540 "nodes" 384 := ⟨386, 232, 242, 225, 541, 540, 203, obOf (kk.heap_1 c.w.params) 385, obOf (kk.heap_1 c.w.params) 225, 0, .ref 231, 674,
  ⟨h.cls_540, (by rw [h.hK]; kernel_rfl), (by rw [h.hK]; kernel_rfl), (by rw [h.hK]; kernel_rfl), by kernel_rfl⟩, h.f_cget, (by rw [h.hK]; kernel_rfl), by kernel_rfl, h.glob (by rw [h.hK]; kernel_rfl), ⟨h.cls_242, 385, (by rw [h.hK]; kernel_rfl), (by rw [h.hK]; kernel_rfl)⟩, (by rw [h.hK]; kernel_rfl), (by rw [h.hK]; kernel_rfl), (by rw [h.hK]; kernel_rfl), (by rw [h.hK]; kernel_rfl), (by rw [h.hK]; kernel_rfl), h.f_nodes.keep, h.dict_540⟩
theorem CxK.cache_755_nodes : CacheFn c 755 "nodes" 384 := ⟨386, 232, 242, 225, 541, 540, 203, obOf (kk.heap_1 c.w.params) 385, obOf (kk.heap_1 c.w.params) 225, 0, .ref 231, 674,
  ⟨h.cls_755, (by rw [h.hK]; kernel_rfl), (by rw [h.hK]; kernel_rfl), (by rw [h.hK]; kernel_rfl), by kernel_rfl⟩, h.f_cget, (by rw [h.hK]; kernel_rfl), by kernel_rfl, h.glob (by rw [h.hK]; kernel_rfl), ⟨h.cls_242, 385, (by rw [h.hK]; kernel_rfl), (by rw [h.hK]; kernel_rfl)⟩, (by rw [h.hK]; kernel_rfl), (by rw [h.hK]; kernel_rfl), (by rw [h.hK]; kernel_rfl), (by rw [h.hK]; kernel_rfl), (by rw [h.hK]; kernel_rfl), h.f_nodes.keep, h.dict_755⟩
theorem CxK.cache_540_adj : CacheFn c 540 "adj" 318 := ⟨320, 232, 242, 225, 541, 540, 203, obOf (kk.heap_1 c.w.params) 319, obOf (kk.heap_1 c.w.params) 225, 0, .ref 231, 587,
  ⟨h.cls_540, (by rw [h.hK]; kernel_rfl), (by rw [h.hK]; kernel_rfl), (by rw [h.hK]; kernel_rfl), by kernel_rfl⟩, h.f_cget, (by rw [h.hK]; kernel_rfl), by kernel_rfl, h.glob (by rw [h.hK]; kernel_rfl), ⟨h.cls_242, 319, (by rw [h.hK]; kernel_rfl), (by rw [h.hK]; kernel_rfl)⟩, (by rw [h.hK]; kernel_rfl), (by rw [h.hK]; kernel_rfl), (by rw [h.hK]; kernel_rfl), (by rw [h.hK]; kernel_rfl), (by rw [h.hK]; kernel_rfl), h.f_adj.keep, h.dict_540⟩
theorem CxK.cache_755_adj : CacheFn c 755 "adj" 577 := ⟨579, 232, 242, 225, 541, 540, 203, obOf (kk.heap_1 c.w.params) 578, obOf (kk.heap_1 c.w.params) 225, 0, .ref 231, 952,
  ⟨h.cls_755, (by rw [h.hK]; kernel_rfl), (by rw [h.hK]; kernel_rfl), (by rw [h.hK]; kernel_rfl), by kernel_rfl⟩, h.f_cget, (by rw [h.hK]; kernel_rfl), by kernel_rfl, h.glob (by rw [h.hK]; kernel_rfl), ⟨h.cls_242, 578, (by rw [h.hK]; kernel_rfl), (by rw [h.hK]; kernel_rfl)⟩, (by rw [h.hK]; kernel_rfl), (by rw [h.hK]; kernel_rfl), (by rw [h.hK]; kernel_rfl), (by rw [h.hK]; kernel_rfl), (by rw [h.hK]; kernel_rfl), h.f_dadj.keep, h.dict_755⟩
theorem CxK.slot : SlotIs c 76 "_nodes" 77 := ⟨(by rw [h.hK]; kernel_rfl), (by rw [h.hK]; kernel_rfl), (by rw [h.hK]; kernel_rfl), (by rw [h.hK]; kernel_rfl), (by rw [h.hK]; kernel_rfl), (by rw [h.hK]; kernel_rfl), (by rw [h.hK]; kernel_rfl), (by rw [h.hK]; kernel_rfl), (by rw [h.hK]; kernel_rfl), (by rw [h.hK]; kernel_rfl)⟩
theorem CxK.view : ViewIs c 76 := ⟨⟨77, h.slot⟩, (by rw [h.hK]; kernel_rfl), ⟨36, _, (by rw [h.hK]; kernel_rfl), (by rw [h.hK]; kernel_rfl), h.f_vinit⟩, keep_K (by rw [h.hK]; kernel_rfl)⟩
theorem CxK.vops : ViewOps c 76 50 43 := ⟨(by rw [h.hK]; kernel_rfl), (by rw [h.hK]; kernel_rfl), (by rw [h.hK]; kernel_rfl), (by rw [h.hK]; kernel_rfl)⟩
theorem CxK.exc : ExcC c 200 := by
  obtain ⟨bm, N, nm, q, bs, hdct, sn, sub, ab, col, dd, k0, k1, k2, k3, k5, mN, hC, hN, hni, T⟩ := h.hE.obj
  exact ⟨⟨nm, q, N, bs, bm, hdct, sn, sub, ab, col, dd, k0, k1, k2, k3, k5, _, _, _, _, mN, PySem.F.excBase_Exception, T, hC, hN, hni⟩, (by rw [h.hK]; kernel_rfl), (by rw [h.hK]; kernel_rfl)⟩
theorem CxK.gb : ∀ x ∈ (["isinstance", "sorted", "range", "min", "max", "dict", "abs", "len", "iter"] : List Str), c.mg x = none := List.forall_mem_cons.mpr ⟨h.gnone (by rw [h.hK]; kernel_rfl), List.forall_mem_cons.mpr ⟨h.gnone (by rw [h.hK]; kernel_rfl), List.forall_mem_cons.mpr ⟨h.gnone (by rw [h.hK]; kernel_rfl), List.forall_mem_cons.mpr ⟨h.gnone (by rw [h.hK]; kernel_rfl), List.forall_mem_cons.mpr ⟨h.gnone (by rw [h.hK]; kernel_rfl), List.forall_mem_cons.mpr ⟨h.gnone (by rw [h.hK]; kernel_rfl), List.forall_mem_cons.mpr ⟨h.gnone (by rw [h.hK]; kernel_rfl), List.forall_mem_cons.mpr ⟨h.gnone (by rw [h.hK]; kernel_rfl), List.forall_mem_cons.mpr ⟨h.gnone (by rw [h.hK]; kernel_rfl), fun _ z => nomatch z⟩⟩⟩⟩⟩⟩⟩⟩⟩
theorem CxK.b_isinstance : c.mb "isinstance" = some (.builtin "isinstance") := (h.hB _ (by decide)).trans (by kernel_rfl)
theorem CxK.b_sorted : c.mb "sorted" = some (.builtin "sorted") := (h.hB _ (by decide)).trans (by kernel_rfl)
theorem CxK.b_range : c.mb "range" = some (.type "range") := (h.hB _ (by decide)).trans (by kernel_rfl)
theorem CxK.b_min : c.mb "min" = some (.builtin "min") := (h.hB _ (by decide)).trans (by kernel_rfl)
theorem CxK.b_max : c.mb "max" = some (.builtin "max") := (h.hB _ (by decide)).trans (by kernel_rfl)
theorem CxK.b_dict : c.mb "dict" = some (.type "dict") := (h.hB _ (by decide)).trans (by kernel_rfl)
theorem CxK.b_abs : c.mb "abs" = some (.builtin "abs") := (h.hB _ (by decide)).trans (by kernel_rfl)
theorem CxK.b_len : c.mb "len" = some (.builtin "len") := (h.hB _ (by decide)).trans (by kernel_rfl)
theorem CxK.b_iter : c.mb "iter" = some (.builtin "iter") := (h.hB _ (by decide)).trans (by kernel_rfl)
theorem CxK.b_KeyError : c.mb "KeyError" = some (.type "KeyError") := (h.hB _ (by decide)).trans (by kernel_rfl)
theorem CxK.b_TypeError : c.mb "TypeError" = some (.type "TypeError") := (h.hB _ (by decide)).trans (by kernel_rfl)
theorem CxK.lawG : LawG c 200 755 540 := ⟨h.glob (by rw [h.hK]; kernel_rfl), h.glob (by rw [h.hK]; kernel_rfl), h.glob (by rw [h.hK]; kernel_rfl), h.gb, h.b_isinstance, h.b_sorted, h.b_range, h.b_min, h.b_max, h.b_dict, keep_K (by rw [h.hK]; kernel_rfl), keep_K (by rw [h.hK]; kernel_rfl)⟩
theorem CxK.gK : c.mg "KeyError" = none := h.gnone (by rw [h.hK]; kernel_rfl)
theorem CxK.gT : c.mg "TypeError" = none := h.gnone (by rw [h.hK]; kernel_rfl)
theorem CxK.gL : c.mg "len" = none := h.gnone (by rw [h.hK]; kernel_rfl)
theorem CxK.gI : c.mg "iter" = none := h.gnone (by rw [h.hK]; kernel_rfl)
theorem CxK.xK : exmOne c.K (.type "KeyError") (.type "KeyError") = some true := (by rw [h.hK]; kernel_rfl)
theorem CxK.xT : exmOne c.K (.type "TypeError") (.type "TypeError") = some true := (by rw [h.hK]; kernel_rfl)
theorem CxK.kK : subIn c.K (.type "KeyError") (.type "BaseException") = some true := (by rw [h.hK]; kernel_rfl)
theorem CxK.notD : NotIs c 540 755 := ⟨(by rw [h.hK]; kernel_rfl), (by rw [h.hK]; kernel_rfl), (by rw [h.hK]; kernel_rfl), (by rw [h.hK]; kernel_rfl), (by rw [h.hK]; kernel_rfl), (by rw [h.hK]; kernel_rfl), (by rw [h.hK]; kernel_rfl)⟩
theorem CxK.gE : c.mg "NetworkXError" = some (.ref 200) := h.lawG.gE
theorem CxK.gV : c.mg "NodeView" = some (.ref 76) := h.glob (by rw [h.hK]; kernel_rfl)
theorem CxK.makesU : MakesG c false 540 76 := makes_u (oT := obOf (kk.heap_1 c.w.params) 304) (nT := 0) h.lawG.kG (by rw [h.hK]; kernel_rfl) (by rw [h.hK]; kernel_rfl) (by rw [h.hK]; kernel_rfl) h.f_init (by rw [h.hK]; kernel_rfl) (by kernel_rfl) h.kls_540
theorem CxK.makesD : MakesG c true 755 76 := makes_d (oT := obOf (kk.heap_1 c.w.params) 563) (nT := 0) h.lawG.kD (by rw [h.hK]; kernel_rfl) (by rw [h.hK]; kernel_rfl) (by rw [h.hK]; kernel_rfl) h.f_dinit (by rw [h.hK]; kernel_rfl) (by kernel_rfl) h.kls_755
theorem CxK.freshU : Fresh c false 540 76 := ⟨303, h.m_540_fresh, h.f_fresh.keep, fun nf A H gid x rm => fresh_u h.f_fresh h.lawG.gG h.makesU rm⟩
theorem CxK.freshD : Fresh c true 755 76 := ⟨562, h.m_755_dfresh, h.f_dfresh.keep, fun nf A H gid x rm => fresh_d h.f_dfresh h.lawG.gD h.makesD rm⟩
theorem CxK.addNU : AddNodes c false 540 76 := ⟨363, h.m_540_addN, h.f_addN.keep, fun nf A H gid j sid loc mm g kw es src rm hg k1 k2 k3 k4 k5 k6 k7 => add_nodes_u h.f_addN h.gT h.b_TypeError h.xT h.kls_540 rm hg k1 k2 k3 k4 k5 k6 k7⟩
theorem CxK.addND : AddNodes c true 755 76 := ⟨614, h.m_755_daddN, h.f_daddN.keep, fun nf A H gid j sid loc mm g kw es src rm hg k1 k2 k3 k4 k5 k6 k7 => add_nodes_d h.f_daddN h.gT h.b_TypeError h.xT h.kls_755 rm hg k1 k2 k3 k4 k5 k6 k7⟩
theorem CxK.addEU : AddEdges c false 540 76 := ⟨422, h.m_540_addE, h.f_addE.keep, fun nf A H gid j sid loc mm g kw es src rm hg k1 k2 k3 k4 k5 k6 k7 => add_edges_u h.f_addE h.gL h.b_len h.kls_540 rm hg k1 k2 k3 k4 k5 k6 k7⟩
theorem CxK.addED : AddEdges c true 755 76 := ⟨642, h.m_755_daddE, h.f_daddE.keep, fun nf A H gid j sid loc mm g kw es src rm hg k1 k2 k3 k4 k5 k6 k7 => add_edges_d h.f_daddE h.gL h.b_len h.kls_755 rm hg k1 k2 k3 k4 k5 k6 k7⟩

theorem CxK.opsU : GOps c false 540 76 200 755 where
  k := h.kls_540
  makes := h.makesU
  fresh := h.freshU
  addN := h.addNU
  addE := h.addEU
  add1 := ⟨415, h.m_540_add1, h.f_add1.keep, fun nf A H gid loc mm g u v kw rm hg u0 u5 v0 v5 hkw => add_edge_u h.f_add1 h.kls_540 rm hg u0 u5 v0 v5 hkw⟩
  copy := ⟨521, h.m_540_copy, h.f_copy.keep, fun nf A H gid gid0 sid loc0 mm0 g0 ap rm hg => copy_ok (q := (520, 516)) (oT := obOf (kk.heap_1 c.w.params) 514) (nT := 0) h.f_copy h.hT (by rw [h.hK]; kernel_rfl) (by kernel_rfl) h.kls_540 h.freshU h.addNU h.addEU ap rm hg⟩
  hasE := ⟨443, h.m_540_hasE, h.f_hasE.keep, fun nf A H gid loc mm g u v rm hg h0 => has_edge_ok h.f_hasE h.gK h.b_KeyError h.xK h.kls_540 rm hg h0⟩
  cont := ⟨335, (by rw [h.hK]; kernel_rfl), (by rw [h.hK]; kernel_rfl), fun nf A H gid loc mm g n rm hg => contains_ok h.f_cont h.kls_540 rm hg⟩
  nbr := ⟨450, h.m_540_nbr, h.f_nbr.keep, fun nf A H gid loc mm g n t rm hg g0 n0 n9 => neighbors2 t h.f_nbr h.gK h.b_KeyError h.xK h.gI h.b_iter h.gE h.exc h.kK h.kls_540 rm hg g0 n0 n9⟩
  nodes := ⟨384, _, h.f_nodes, h.cache_540_nodes, h.gV, h.view⟩
  get := ⟨349, (by rw [h.hK]; kernel_rfl), (by rw [h.hK]; kernel_rfl), (by rw [h.hK]; kernel_rfl), fun A H gid loc mm g n rm hg hn => getitem_ok h.f_geti h.cache_540_adj (fun A' rm' => adj_u h.f_adj h.kls_540 rm' hg) h.kls_540 rm hg hn⟩
  vget := ⟨57, (by rw [h.hK]; kernel_rfl), (by rw [h.hK]; kernel_rfl), (by rw [h.hK]; kernel_rfl), fun nf A H gid loc mm g a d n rm hg ha hd hn => view_get h.f_vget h.slot rm hg ha hd hn⟩
  vops := ⟨50, 43, h.vops, fun A H a d dN tv td tN t l rm ha hd hN => vIter t h.f_viter h.slot h.gI h.b_iter rm ha hd hN, fun A H a d dN tv td tN ob l rm ha hd hN => vLen h.f_vlen h.slot h.gL h.b_len rm ha hd hN⟩
  isi := h.notD
  xE := (by rw [h.hK]; kernel_rfl)
theorem CxK.opsD : GOps c true 755 76 200 755 where
  k := h.kls_755
  makes := h.makesD
  fresh := h.freshD
  addN := h.addND
  addE := h.addED
  add1 := ⟨635, h.m_755_dadd1, h.f_dadd1.keep, fun nf A H gid loc mm g u v kw rm hg u0 u5 v0 v5 hkw => add_edge_d h.f_dadd1 h.kls_755 rm hg u0 u5 v0 v5 hkw⟩
  copy := ⟨521, h.m_755_copy, h.f_copy.keep, fun nf A H gid gid0 sid loc0 mm0 g0 ap rm hg => copy_ok (q := (520, 516)) (oT := obOf (kk.heap_1 c.w.params) 514) (nT := 0) h.f_copy h.hT (by rw [h.hK]; kernel_rfl) (by kernel_rfl) h.kls_755 h.freshD h.addND h.addED ap rm hg⟩
  hasE := ⟨443, h.m_755_hasE, h.f_hasE.keep, fun nf A H gid loc mm g u v rm hg h0 => has_edge_ok h.f_hasE h.gK h.b_KeyError h.xK h.kls_755 rm hg h0⟩
  cont := ⟨335, (by rw [h.hK]; kernel_rfl), (by rw [h.hK]; kernel_rfl), fun nf A H gid loc mm g n rm hg => contains_ok h.f_cont h.kls_755 rm hg⟩
  nbr := ⟨677, h.m_755_succ, h.f_succ.keep, fun nf A H gid loc mm g n t rm hg g0 n0 n9 => successors2 t h.f_succ h.gK h.b_KeyError h.xK h.gI h.b_iter h.gE h.exc h.kK rfl h.kls_755 rm hg g0 n0 n9⟩
  nodes := ⟨384, _, h.f_nodes, h.cache_755_nodes, h.gV, h.view⟩
  get := ⟨349, (by rw [h.hK]; kernel_rfl), (by rw [h.hK]; kernel_rfl), (by rw [h.hK]; kernel_rfl), fun A H gid loc mm g n rm hg hn => getitem_ok h.f_geti h.cache_755_adj (fun A' rm' => adj_d h.f_dadj rfl h.kls_755 rm' hg) h.kls_755 rm hg hn⟩
  vget := ⟨57, (by rw [h.hK]; kernel_rfl), (by rw [h.hK]; kernel_rfl), (by rw [h.hK]; kernel_rfl), fun nf A H gid loc mm g a d n rm hg ha hd hn => view_get h.f_vget h.slot rm hg ha hd hn⟩
  vops := ⟨50, 43, h.vops, fun A H a d dN tv td tN t l rm ha hd hN => vIter t h.f_viter h.slot h.gI h.b_iter rm ha hd hN, fun A H a d dN tv td tN ob l rm ha hd hN => vLen h.f_vlen h.slot h.gL h.b_len rm ha hd hN⟩
  isi := rfl
  xE := (by rw [h.hK]; kernel_rfl)
theorem CxK.fns : LawFns2 c where
  b := ⟨⟨778, h.glob (by rw [h.hK]; kernel_rfl), h.f_lnext.keep, _, h.f_lnext⟩, ⟨785, h.glob (by rw [h.hK]; kernel_rfl), h.f_lput.keep, _, h.f_lput⟩⟩
  deed := ⟨792, h.glob (by rw [h.hK]; kernel_rfl), h.f_ldeed.keep, _, h.f_ldeed⟩
  same := ⟨799, h.glob (by rw [h.hK]; kernel_rfl), h.f_lsame.keep, _, h.f_lsame⟩
  seed := ⟨771, h.glob (by rw [h.hK]; kernel_rfl), h.f_lseed.keep, _, h.f_lseed⟩
theorem CxK.law {A : Around} {H : AHeap} (rm : Rm A 10) {l : Addr} {ns : List Int} (hl : BaseL c l ns) : CallOk true c A H (.ref 806) [.ref l] [] (fun r _ => r = .bool true) (fun _ _ => False) :=
  law_okB h.f_law h.fns h.opsU h.opsD h.lawG (h.gnone (by rw [h.hK]; kernel_rfl)) h.b_abs rm hl
end
end Nx
end
section
set_option maxHeartbeats 4000000
set_option autoImplicit false
namespace Nx
theorem kin_all (P : Params) : ((kk.heap_1 P).all fun p => p.2.cls != .none || p.1 == cStatics) = true := by kernel_rfl
theorem lookup_mem {α : Type} {K : List (Nat × α)} {a : Nat} {o : α} (h : K.lookup a = some o) : (a, o) ∈ K := by
  induction K with
  | nil => cases h
  | cons p r ih =>
    obtain ⟨b, x⟩ := p
    rw [List.lookup_cons] at h
    split at h
    · rename_i e
      cases h
      rw [eq_of_beq e]
      exact .head _
    · exact .tail _ (ih h)
theorem run_law {prog : Program} {w : World} {s₁ : Shared} {mg mb : Str → Option Value} {fa l : Addr} {vs : List Value} {ns : List Int} {p : Program} {loose : List Str} {mean : ExcName → Option Value}
    (KX : (kk.heap_1 w.params).In s₁.heap) (KT : ∀ P ∈ [516], s₁.heap.get? P = some (tabObj #[])) (T : Top p loose mean mg mb s₁.heap) (hmg : mg "law" = some (.ref fa)) (hg : s₁.gens = #[]) (hL : s₁.heap.IsList l vs.toArray) (hI : IntsAre vs ns) (hz : ns.length ≤ 63) :
    wpN true (model prog w) callerA (PySem.call (.ref fa) [.ref l]) (fun v s' => v = .bool true ∧ OldK s₁.heap s'.heap ∧ s'.os = s₁.os ∧ AllBare s'.gens) (fun _ _ => False) s₁ := by
  have hfa : fa = 806 := by
    have := mg_of KX T.g (n := "law") (v := .ref 806) (by kernel_rfl)
    rw [hmg] at this
    cases this
    rfl
  subst hfa
  let c : Cx := {
    prog := prog, w := w, base := s₁.heap, os := s₁.os, K := kk.heap_1 w.params, mg := mg, mb := mb
    kin := fun a o e => ⟨KX a o e, by
      have := List.all_eq_true.mp (kin_all w.params) _ (lookup_mem e)
      simp only [Bool.or_eq_true, bne_iff_ne, beq_iff_eq] at this
      exact this⟩
    stat := ⟨obOf (kk.heap_1 w.params) cStatics, KX _ _ (by kernel_rfl)⟩
    lim := T.nolimit
    thr := let ⟨mc, h1, _⟩ := T.nodigits; ⟨mc, h1, ns_none_of KX h1 (by kernel_rfl)⟩
    tabs := [(520, 516)]
    tabsOk := List.forall_mem_cons.mpr ⟨⟨codeHd_of_K KX (by kernel_rfl), KT 516 (.head _), by decide⟩, fun _ z => nomatch z⟩
    gns := T.g
    bns := T.b
    bmod := bmod_of_top T }
  have hc : CxK c := ⟨rfl, T.builtins, .head _, own_of_in KX (topRead_of T) (by kernel_rfl) (by kernel_rfl)⟩
  have hl : BaseL c l ns := by
    obtain ⟨ob, g, h1, n, h2⟩ := hL
    exact ⟨ob, vs, n, g, h1, h2, hI, by omega⟩
  have ok : Ok c (fun _ => none) s₁ (fun _ => none) := {
    old := ⟨OldK.refl _, List.forall_mem_cons.mpr ⟨⟨#[], KT 516 (.head _), trivial⟩, fun _ z => nomatch z⟩⟩
    stat := rfl, os := rfl, bare := .of_eq hg, low := Nat.le_refl _
    own := fun _ _ _ z => nomatch z
    gen := fun _ _ _ _ z => nomatch z
    frz := fun _ _ z => nomatch z }
  have rm : Rm callerA 10 := ⟨by decide +kernel, by decide +kernel, rfl⟩
  refine wpN_call (codeN_mono (hc.law rm hl _ s₁ [.ref l] [] [] ok rfl (fun _ z => nomatch z) (.cons rfl .nil) .nil) ?_)
  rintro r s' hr
  match r, hr with
  | .ok (.ret v), ⟨W', H', a, post, rv, e⟩ =>
    obtain rfl : a = .bool true := e
    obtain rfl : v = .bool true := rv
    exact ⟨rfl, post.ok.old.k, post.ok.os, post.ok.bare⟩
  | .error e, ⟨W', H', a, post, rv, z⟩ => exact z.elim
def holds1.tw8030631101326318038 : Unit := ()
def holds1.tw14618587224407779817 : Unit := ()
def holds1.tw2194414514631899926 : Unit := ()
def holds1.tw12827203423297718479 : Unit := ()
def holds1.tw15295227666829138881 : Unit := ()
def holds1.tw5235174933956231503 : Unit := ()
def holds1.tw5513338167643411890 : Unit := ()
def holds1.tw16519911416514621367 : Unit := ()
def holds1.tw18170449360354691548 : Unit := ()
def holds1.tw16240016212752066834 : Unit := ()
def holds1.tw11097678913318174845 : Unit := ()
def holds1.tw14261018686077304936 : Unit := ()
def holds1.tw15137269062466782613 : Unit := ()
def holds1.tw1719305598682052352 : Unit := ()
def holds1.tw14844671576344510486 : Unit := ()
def holds1.tw17560072691821216774 : Unit := ()
def holds1.tw6889430434276450303 : Unit := ()
def holds1.tw5754833850973784843 : Unit := ()
def holds1.tw7531912460129332119 : Unit := ()
def holds1.tw12794820935631865743 : Unit := ()
def holds1.tw2979780598626173479 : Unit := ()
def holds1.tw7593599014886378568 : Unit := ()
def holds1.tw11496841249227603877 : Unit := ()
def holds1.tw10832809302756911217 : Unit := ()
def holds1.tw10949138701797669407 : Unit := ()
def holds1.tw8310643452331752514 : Unit := ()
local macro_rules | `(tactic| o_head ($_f $_K $_as $_e)) => `(tactic| o_head (kmHook kk.heap_1 [2,3,15,17,18,20,21,29,30,32,33,35,36,37,39,40,42,43,44,46,47,49,50,51,53,54,56,57,58,60,61,63,64,65,66,68,69,71,72,73,75,76,77,87,89,90,92,93,94,96,97,99,100,101,103,104,106,107,108,110,111,113,114,115,117,118,120,121,122,124,125,127,128,129,130,131,133,134,136,137,138,139,140,141,142,145,152,154,155,157,158,159,161,162,164,165,166,168,169,171,172,173,174,175,178,185,186,187,188,191,198,199,200,203,211,213,214,216,217,218,220,221,223,224,225,226,228,229,231,232,233,235,236,238,239,240,241,242,243,244,245,255,257,258,260,261,262,264,265,267,268,269,271,272,274,275,276,278,279,281,282,283,285,286,288,289,290,292,293,295,296,297,299,300,302,303,304,305,307,308,310,311,312,314,315,317,318,319,320,322,324,325,327,328,329,331,332,334,335,336,338,339,341,342,343,345,346,348,349,350,352,353,355,356,357,359,360,362,363,364,366,367,369,370,371,373,374,376,377,378,380,381,383,384,385,386,388,390,391,393,394,395,397,398,400,401,402,404,405,407,408,409,411,412,414,415,416,418,419,421,422,423,425,426,428,429,430,432,433,435,436,437,439,440,442,443,444,446,447,449,450,451,453,454,456,457,458,459,461,462,464,465,467,468,469,471,472,474,475,476,478,479,481,482,483,484,486,488,489,491,492,493,495,496,498,499,500,502,503,505,506,507,509,510,512,513,514,515,517,518,520,521,522,523,525,526,528,529,530,531,533,534,536,537,538,539,540,541,542,549,556,558,559,561,562,563,564,566,567,569,570,571,573,574,576,577,578,579,581,583,584,586,587,588,589,591,593,594,596,597,598,599,601,603,604,606,607,608,610,611,613,614,615,617,618,620,621,622,624,625,627,628,629,631,632,634,635,636,638,639,641,642,643,645,646,648,649,650,652,653,655,656,657,659,660,662,663,664,666,667,669,670,671,673,674,676,677,678,680,681,683,684,685,687,688,690,691,692,693,695,697,698,700,701,702,703,705,707,708,710,711,712,713,715,717,718,720,721,722,723,725,727,728,730,731,732,734,735,737,738,739,741,742,744,745,746,748,749,751,752,753,754,755,765,767,768,770,771,772,774,775,777,778,779,781,782,784,785,786,788,789,791,792,793,795,796,798,799,800,802,803,805,806] (fun _ => by kernel_rfl) [516]))
set_option Elab.async true in
set_option maxHeartbeats 8000000 in
theorem holds1 : PySem.Challenge.rw_ci0023_01.Holds := by
  w_on
  o_law
  k_head
  case hw => w_witness2
  intro w s₀ s₁ mg mb G Y fa o pm cd doc dV kV ho hdd hcd hD hmg hg args vals as hpre hlay hrd hwl hlo
  have KX := km_in_of Y
  have KT := km_tabs_of Y
  clear Y
  refine Ground.open G ?_
  intro T B D TE TW
  clear D TE TW B ho hdd hcd hD G
  wrow_args hpre hlay hrd hwl hlo
  rename_i ns _ _ _ _ _ _ _ l vs _ hL _ _ _ hI _ hz _
  refine wpN_mono (run_law KX KT T hmg hg hL hI (by omega)) (fun v s' z => ?_) fun _ _ z => z.elim
  obtain ⟨rfl, z2, z3, z4⟩ := z
  refine ⟨.inl ⟨.bool true, .bool true, [], rfl, raisesW_false (by wrow_none_raised), .bool true, by wrow_post, unshared_nil⟩, z2, z3, z4⟩
end Nx
end
theorem PySem.Challenge.cw_ci0023_01_holds : PySem.Challenge.rw_ci0023_01.Holds := by
  exact Nx.holds1
