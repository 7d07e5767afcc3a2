import PyProof.Rows.All
import Wide.All
import OpenK.AllK
import Wide.FinOn
import KE.LcTurns
import KE.KTurns
import KE.KBytesWalk
import PyProof.StrWalks
import PyProof.WalksMore
import PyProof.Rows.PlainStore
import PyProof.MaxThree
import PyProof.Draws
import PyProof.ZipIter
import PyProof.WalksU
import PyProof.TupleIter
import PyProof.Rows.SumGenB
import PyProof.TupleOfGen
import PyProof.GenCompD
import PyProof.Rows.GenRowsTF
import PyProof.Rows.TupleGenD
import PyProof.Rows.ZipGen
import KE.KRegrown
import KE.TopReadKeeps
import PyProof.DictItemsLoops
import PyProof.WalksPairs
import Lean
import PySem.Challenge.RW_zn0014_01
set_option Elab.async false
section
open PySem PySem.W PySem.Calls PyProof.Rows
namespace Mine
open PySem.Sem (wp)
noncomputable def holdIds : List String := ["bytearray.__contains__", "bytearray.__mod__", "bytearray.__rmod__", "_struct.pack_into.held", "bytearray.find.held"] ++ Builtin.Bytes.decodersThatHold
noncomputable def clean : Code → Bool
  | .builtin id _ => !holdIds.contains id
  | _ => true
noncomputable def CleanB (l : List (Code × Pos)) : Prop := ∀ x ∈ l, clean x.1 = true
noncomputable def CleanX (Γ : Ctx) : Prop := clean Γ.code = true ∧ CleanB Γ.below
theorem hideP {X : Prop} (h : ∀ G : Prop, (X → G) → G) : X := h X id
noncomputable def wpS {α : Type} (M : Model) (A : Around) (t : Sem α) (Q : α → Shared → Prop) (E : Value → Shared → Prop) (s : Shared) : Prop :=
  ∀ Γ p, Γ.In A → CleanX Γ → wp M Γ t (fun a _ s' => Q a s') (fun e _ s' => E e s') p s
noncomputable def codeS (M : Model) (A : Around) (c : Code) (R : Result → Shared → Prop) (s : Shared) : Prop :=
  ∀ Γ p, Γ.code = c → Γ.Below A → CleanB Γ.below → wpCode M Γ R p s
section
variable {α β : Type} {M : Model} {A : Around} {E : Value → Shared → Prop} {s : Shared}
theorem wpS_of {t : Sem α} {Q : α → Shared → Prop} (h : wpAny M A t Q E s) : wpS M A t Q E s := fun Γ p hΓ _ => h Γ p hΓ
theorem codeS_of {c : Code} {R : Result → Shared → Prop} (h : codeAny M A c R s) : codeS M A c R s := fun Γ p hc hΓ _ => h Γ p hc hΓ
theorem wpS_mono {t : Sem α} {Q Q' : α → Shared → Prop} {E' : Value → Shared → Prop} (h : wpS M A t Q E s)
    (hQ : ∀ a s, Q a s → Q' a s) (hE : ∀ e s, E e s → E' e s) : wpS M A t Q' E' s :=
  fun Γ p hΓ hc => Sem.wp_mono M Γ t (fun a _ s => hQ a s) (fun e _ s => hE e s) p s (h Γ p hΓ hc)
theorem wpS_bind {m : Sem α} {f : α → Sem β} {Q : β → Shared → Prop} (h : wpS M A m (fun a s' => wpS M A (f a) Q E s') E s) :
    wpS M A (m >>= f) Q E s := fun Γ p hΓ hc => by
  rw [Sem.wp_bind']
  exact Sem.wp_mono M Γ m (fun a p' s' h' => h' Γ p' hΓ hc) (fun _ _ _ h' => h') p s (h Γ p hΓ hc)
theorem wpS_first {m : Sem α} {f : α → Sem β} {Q : β → Shared → Prop} (h : wpAny M A m (fun a s' => wpS M A (f a) Q E s') E s) :
    wpS M A (m >>= f) Q E s := wpS_bind (wpS_of h)
theorem wpS_onRaise {m : Sem α} {k : Value → Sem Unit} {Q : α → Shared → Prop} (h : wpS M A m Q (fun _ _ => False) s) : wpS M A (m.onRaise k) Q E s := fun Γ p hΓ hc => by
  rw [Sem.wp_onRaise]
  exact Sem.wp_mono M Γ m (fun _ _ _ h' => h') (fun e p' s' h' => h'.elim) p s (h Γ p hΓ hc)
theorem codeS_mono {c : Code} {R R' : Result → Shared → Prop} (h : codeS M A c R s) (hR : ∀ r s, R r s → R' r s) : codeS M A c R' s :=
  fun Γ p hc hΓ hb => wpCode_mono hR (h Γ p hc hΓ hb)
theorem codeS_of_tree {c : Code} {R : Result → Shared → Prop} (hcl : clean c = true)
    (h : wpS M (A.under c) (M.den c) (fun fin s' => match fin with | .done f => R (.ok f) s' | .again c' => c'.quiet = true ∧ codeS M A c' R s')
      (fun e s' => R (.error e) s') s) : codeS M A c R s := fun Γ p hc hΓ hb => by
  rw [wpCode_iff_wp, hc]
  refine Sem.wp_mono M Γ _ (fun fin p' s' h' => ?_) (fun _ _ _ h' => h') p s (h Γ p (hc ▸ hΓ.in) ⟨hc ▸ hcl, hb⟩)
  cases fin with
  | done f => exact h'
  | again c' => exact ⟨h'.1, h'.2 (Γ.goto c') p' rfl (hΓ.goto c') hb⟩
theorem wpS_code {c : Code} {g : Bool} {l : List Value} {k : Result → Sem α} {Q : α → Shared → Prop} (hc : codeS M A c (fun r s' => wpS M A (k r) Q E s') s) :
    wpS M A (.call c none g l k) Q E s := fun Γ p hΓ hcl => by
  have hm : A.mark none = A := by cases A; rfl
  show wpCode M (Γ.enter c none p) _ p s
  refine wpCode_mono (fun r s' q => q Γ p hΓ hcl) (hc _ p rfl (hm ▸ hΓ.enter c none p (by intro e; cases e)) ?_)
  intro x hx
  rcases List.mem_cons.mp hx with rfl | hx
  · exact hcl.1
  · exact hcl.2 x hx
theorem wpS_call {f : Value} {pos : List Value} {kw : List (Str × Value)} {Q : Value → Shared → Prop}
    (hc : codeS M A (.call f ⟨pos, kw⟩) (fun r s' => ∃ v, r = .ok (.ret v) ∧ Q v s') s) : wpS M A (call f pos kw) Q E s := by
  show wpS M A (run (.call f ⟨pos, kw⟩) >>= _) Q E s
  refine wpS_bind ?_
  refine wpS_code (codeS_mono hc ?_)
  rintro r s' ⟨v, rfl, hv⟩ Γ p _ _
  exact fun Γ p _ _ => hv
theorem wpS_pure {a : α} {Q : α → Shared → Prop} (h : Q a s) : wpS M A (pure a) Q E s := wpS_of (wpAny_pure h)
theorem wpS_holding {vs : List Value} {m : Sem α} {Q : α → Shared → Prop} (h : wpS M A m Q E s) : wpS M A (holding vs m) Q E s :=
  fun Γ p hΓ hc => by rw [Sem.wp_holding]; exact h Γ p hΓ hc
theorem wpS_keep {vs : List Value} {m : Sem α} {Q : α → Shared → Prop} (h : wpS M A m Q E s) : wpS M A (m.keep vs) Q E s :=
  fun Γ p hΓ hc => by rw [Sem.wp_keep]; exact h Γ p hΓ hc
theorem codeS_loop {c : Code} {R : Result → Shared → Prop} (hcl : clean c = true) (hq : c.quiet = true) (I : Nat → Shared → Prop)
    (turn : ∀ n s, I n s → wpS M (A.under c) (M.den c)
      (fun fin s' => match fin with
        | .done f => R (.ok f) s'
        | .again c' => (c' = c ∧ ∃ m, m < n ∧ I m s') ∨ (c'.quiet = true ∧ codeS M A c' R s')) (fun e s' => R (.error e) s') s)
    (n : Nat) (h : I n s) : codeS M A c R s := by
  induction n using Nat.strongRecOn generalizing s with
  | ind n ih =>
    refine codeS_of_tree hcl (wpS_mono (turn n s h) (fun fin s' hf => ?_) fun _ _ h' => h')
    cases fin with
    | done f => exact hf
    | again c' =>
      rcases hf with ⟨rfl, m, hm, hI⟩ | hf
      · exact ⟨hq, ih m hm hI⟩
      · exact hf
theorem wpS_run {c : Code} {Q : Flow → Shared → Prop} (hc : codeS M A c (fun r s' => ∃ f, r = .ok f ∧ Q f s') s) : wpS M A (run c none) Q E s := by
  unfold run
  refine wpS_code (codeS_mono hc ?_)
  rintro r s' ⟨v, rfl, hv⟩
  exact wpS_pure hv
end
section
variable {prog : Program} {w : World} {A : Around} {E : Value → Shared → Prop} {R : Result → Shared → Prop} {s : Shared} {env : Env}
noncomputable abbrev wF {α : Type} : α → Shared → Prop := fun _ _ => False
theorem codeS_func {body : List Stmt} (h : wpS (model prog w) (A.deeper env) (execs body env) (fun f s' => R (.ok (.ret (match f with | .ret v => v | _ => .none))) s') wF s) :
    codeS (model prog w) A (.func body env) R s := by
  refine codeS_of_tree rfl ?_
  show wpS _ (A.deeper env) (do point; match ← (execs body env).onRaise (leaving env) with | .ret v => ret v | _ => ret .none) _ _ s
  refine wpS_first (wpAny_point ?_)
  refine wpS_bind (wpS_onRaise (wpS_mono h (fun f s' h' => ?_) fun _ _ h' => h'))
  cases f <;> exact wpS_pure h'
theorem codeS_call_function {a : Addr} {args : Args} {o : Obj} {fd : FuncData} {body : List Stmt} (hroom : A.depth < recursionLimit)
    (ho : s.heap.get? a = some o)
    (hd' : o.data = .func fd) (hco : fd.scope.isCoroutine = false) (hgen : fd.scope.isGenerator = false) (hbody : fd.body = .stmts body) (hcd : s.heap.CodeRec fd.code fd.qualname)
    (h : wpAny (model prog w) A.in1 (bindArgs fd args) (fun binds s₁ =>
      wpAny (model prog w) A.in1 (newFunctionEnv fd.scope fd.globals fd.closure binds (fd.qualname ++ ".<locals>.") (some a) fd.code none fd.builtins)
        (fun env s₂ => s₂.heap.NoLimit ∧ codeS (model prog w) A (.func body env) R s₂) wF s₁) wF s) :
    codeS (model prog w) A (.call (.ref a) args) R s := by
  refine codeS_of_tree rfl ?_
  show wpS _ A.in1 (callAny (.ref a) args) _ _ s
  simp only [callAny]
  refine wpS_first (wpAny_load ho ?_)
  obtain ⟨c, oc, vs, tq, hc, hoc, hdc, hq⟩ := hcd
  simp only [hd', callFunction, hco, hgen, hbody, hc]
  rw [hc] at h
  refine wpS_first (m := field (.ref c) 1) (wpAny_field hoc hdc hq (wpS_first (wpAny_pure ?_)))
  exact wpS_first (wpAny_mono h (fun binds s₁ h₁ => wpS_first (wpAny_mono h₁ (fun env s₂ h₂ => wpS_first (wpAny_enterFrame h₂.1 hroom
    (wpS_pure (And.intro rfl h₂.2)))) fun _ _ h' => h'.elim)) fun _ _ h' => h'.elim)
theorem codeS_block {stmts : List Stmt} (h : wpS (model prog w) A (execs stmts env) (fun f s' => R (.ok f) s') wF s) : codeS (model prog w) A (.block stmts env) R s := by
  refine codeS_of_tree rfl ?_
  show wpS _ _ (do return Fin.done (← (execs stmts env).onRaise (fun x => do noteFrame x env; theTreesLotGoes x))) _ _ s
  exact wpS_bind (wpS_onRaise (wpS_mono h (fun f s' h' => wpS_pure h') fun _ _ h' => h'))
theorem codeS_forLoop {target it body orelse} (I : Nat → Shared → Prop)
    (turn : ∀ n s, I n s → wpAny (model prog w) A (pyNext it) (fun r s₁ => match r with
      | none => wpS (model prog w) A (execs orelse env) (fun f s₃ => R (.ok f) s₃) wF s₁
      | some v => wpAny (model prog w) A (letOwnedTupleGo target it v) (fun _ s₁' =>
          wpAny (model prog w) A (assign target env v) (fun _ s₂ => wpS (model prog w) A (execs body env) (fun f s₃ => match f with
            | .next | .cont => ∃ m, m < n ∧ I m s₃
            | .brk => R (.ok .next) s₃
            | .ret v => R (.ok (.ret v)) s₃) wF s₂) wF s₁') wF s₁) wF s)
    (n : Nat) (h : I n s) : codeS (model prog w) A (.forLoop target it body orelse env) R s := by
  refine codeS_loop rfl rfl I (fun n s hI => ?_) n h
  show wpS _ A ((forTurn target it body orelse env).onRaise (fun x => do noteFrame x env; theTreesLotGoes x)) _ _ s
  refine wpS_onRaise ?_
  simp only [forTurn]
  refine wpS_first (wpAny_standAt (wpS_bind (wpS_onRaise (wpS_of (wpAny_mono (turn n s hI) (fun r s₁ h₁ => ?_) fun _ _ h' => h')))))
  cases r with
  | none => exact wpS_pure (.inr ⟨rfl, codeS_block h₁⟩)
  | some v =>
    refine wpS_first (wpAny_mono h₁ (fun _ s₁' h₁' => ?_) fun _ _ h' => h')
    refine wpS_first (wpAny_mono h₁' (fun _ s₂ h₂ => wpS_bind (wpS_mono h₂ (fun f s₃ h₃ => ?_) fun _ _ h' => h')) fun _ _ h' => h')
    cases f with
    | next => exact wpS_pure (.inl ⟨rfl, h₃⟩)
    | cont => exact wpS_pure (.inl ⟨rfl, h₃⟩)
    | brk => exact wpS_pure h₃
    | ret v => exact wpS_pure h₃
theorem wpS_execs_cons {st rest} {Q : Flow → Shared → Prop} {M : Model}
    (h : wpS M A (exec st env) (fun f s' => match f with | .next => wpS M A (execs rest env) Q E s' | f => Q f s') E s) :
    wpS M A (execs (st :: rest) env) Q E s := by
  rw [execs_cons]
  refine wpS_bind (wpS_mono h (fun f s' h' => ?_) fun _ _ h' => h')
  cases f with
  | next => exact h'
  | cont => exact wpS_pure h'
  | brk => exact wpS_pure h'
  | ret v => exact wpS_pure h'
theorem wpS_execs_any {st rest} {Q : Flow → Shared → Prop} {M : Model}
    (h : wpAny M A (exec st env) (fun f s' => match f with | .next => wpS M A (execs rest env) Q E s' | f => Q f s') E s) :
    wpS M A (execs (st :: rest) env) Q E s := wpS_execs_cons (wpS_of h)
theorem wpS_Assign_Name {x : Str} {pos' value pos} {Q : Flow → Shared → Prop} {M : Model}
    (h : wpS M A (eval value env) (fun v s₁ => wpAny M A (storeName env x v) (fun _ => Q .next) E s₁) E s) (hs : swapsWith value (some (.Name x pos')) pos.line env = pure false := by rfl) :
    wpS M A (exec (.Assign [.Name x pos'] value pos) env) Q E s := by
  rw [exec_Assign_Name _ _ _ _ _ hs]
  refine wpS_first (wpAny_standAt (wpS_bind (wpS_mono h (fun v s₁ h₁ => ?_) fun _ _ x => x)))
  exact wpS_of (wpAny_bind (wpAny_standAt (wpAny_bind (wpAny_bindName (wpAny_mono h₁ (fun _ _ q => wpAny_pure q) fun _ _ e => e)))))
theorem wpS_Assign_Tuple {elts k tpos value pos} {Q : Flow → Shared → Prop} {M : Model}
    (h : wpS M A (eval value env) (fun v s₁ => wpAny M A (assign (.Tuple elts k tpos) env v) (fun _ => Q .next) E s₁) E s)
    (hs : swapsWithSole [.Tuple elts k tpos] value pos.line env = pure false := by rfl)
    (hw : swappedStores [.Tuple elts k tpos] value env = pure none := by rfl) :
    wpS M A (exec (.Assign [.Tuple elts k tpos] value pos) env) Q E s := by
  rw [exec_Assign]
  refine wpS_first (wpAny_standAt ?_)
  rw [hs]
  refine wpS_first (wpAny_pure ?_)
  rw [if_neg (by decide)]
  refine wpS_bind (wpS_mono h (fun v s₁ h₁ => ?_) fun _ _ x => x)
  rw [hw]
  refine wpS_of (wpAny_bind (wpAny_pure ?_))
  show wpAny M A (do assignAll v [assign (.Tuple elts k tpos) env]; pure .next) Q E s₁
  exact wpAny_bind (wpAny_mono h₁ (fun _ _ x => wpAny_pure x) fun _ _ x => x)
theorem wpS_If {test body orelse pos} {Q : Flow → Shared → Prop} {M : Model}
    (h : wpAny M A (isTrue test env (eval test env)) (fun b s₁ => if b then wpS M A (execs body env) Q E s₁ else wpS M A (execs orelse env) Q E s₁) E s) :
    wpS M A (exec (.If test body orelse pos) env) Q E s := by
  rw [exec_If]
  refine wpS_first (wpAny_standAt (wpS_first (wpAny_mono h (fun b s₁ h₁ => ?_) fun _ _ x => x)))
  cases b <;> exact h₁
theorem wpS_For {target iter body orelse pos} {Q : Flow → Shared → Prop}
    (h : wpAny (model prog w) A (eval iter env) (fun x s₁ => wpAny (model prog w) A (pyIter x) (fun it s₂ =>
      codeS (model prog w) A (.forLoop target it body orelse env) (fun r s' => ∃ f, r = .ok f ∧ Q f s') s₂) wF s₁) wF s)
    (hs : ∀ x, foldedSetIterable iter env x = pure x := by intro _; rfl) :
    wpS (model prog w) A (exec (.For target iter body orelse pos) env) Q E s := by
  rw [exec_For]
  refine wpS_first (wpAny_standAt (wpS_first (wpAny_mono h (fun x s₁ h₁ => ?_) fun _ _ h' => h'.elim)))
  refine wpS_first (wpAny_of_eq (hs x) (wpS_first (wpAny_standAt ?_)))
  refine wpS_bind (wpS_holding (wpS_of (wpAny_mono h₁ (fun it s₂ h₂ => ?_) fun _ _ h' => h'.elim)))
  unfold runOwn
  exact wpS_onRaise (wpS_run h₂)
theorem wpS_Call_ {func : PySem.Expr} {args : List PySem.Expr} {pos : Pos} {Q : Value → Shared → Prop} {M : Model}
    (h : wpAny M A (eval func env) (fun f s₁ => wpS M A (callWith pos f [] (backTo pos (starEach args env)) []) Q E s₁) E s)
    (he : eval (.Call func args [] pos) env = (do callWith pos (← eval func env) [] (backTo pos (starEach args env)) (backToKw pos (keywordEach [] env))) := by rfl) :
    wpS M A (eval (.Call func args [] pos) env) Q E s := by
  rw [he]; exact wpS_first h
theorem wpS_spliced_cons {x : Sem Value} {rest : List (Bool × Sem Value)} {Q : List Value → Shared → Prop} {M : Model}
    (h : wpS M A x (fun v s₁ => wpS M A (spliced rest) (fun vs s₂ => Q (v :: vs) s₂) E s₁) E s) : wpS M A (spliced ((false, x) :: rest)) Q E s := by
  rw [spliced]
  refine wpS_bind (wpS_mono h (fun v s₁ h₁ => ?_) fun _ _ x => x)
  simp only [Bool.false_eq_true, if_false]
  exact wpS_bind (wpS_pure (wpS_bind (wpS_holding (wpS_mono h₁ (fun vs s₂ h₂ => wpS_pure h₂) fun _ _ x => x))))
theorem wpS_args_cons {e : PySem.Expr} {rest : List PySem.Expr} {pos : Pos} {Q : List Value → Shared → Prop} {M : Model}
    (h : wpS M A (eval e env) (fun v s₁ => wpS M A (spliced (backTo pos (starEach rest env))) (fun vs s₂ => Q (v :: vs) s₂) E s₁) E s)
    (he : starEach (e :: rest) env = (false, eval e env) :: starEach rest env := by rfl) : wpS M A (spliced (backTo pos (starEach (e :: rest) env))) Q E s := by
  rw [he]; exact wpS_spliced_cons h
theorem wpS_evalArgs_plain {f : Value} {x : Sem Value} {rest : List (Bool × Sem Value)} {Q : Args → Shared → Prop} {M : Model}
    (h : wpS M A (spliced ((false, x) :: rest)) (fun vs s' => Q ⟨vs, []⟩ s') E s) : wpS M A (evalArgs f true ((false, x) :: rest) []) Q E s := by
  unfold evalArgs
  show wpS M A (spliced ((false, x) :: rest) >>= _) Q E s
  refine wpS_bind (wpS_mono h (fun vs s' h' => ?_) fun _ _ x => x)
  refine wpS_holding ?_
  exact wpS_bind (wpS_pure (wpS_bind (wpS_pure (wpS_pure h'))))
theorem wpS_callWith_function {pos : Pos} {a : Addr} {o : Obj} {fd : FuncData} {first : List Value} {args : List (Bool × Sem Value)} {Q : Value → Shared → Prop} {M : Model}
    (h : wpS M A (evalArgs (.ref a) true args []) (fun x s₁ => (s₁.heap.get? a = some o ∧ o.data = .func fd) ∧ wpS M A (call (.ref a) (first ++ x.pos) x.kw) Q E s₁) E s) :
    wpS M A (callWith pos (.ref a) first args []) Q E s := by
  unfold callWith
  refine wpS_bind (wpS_holding (wpS_mono h (fun x s₁ h₁ => wpS_first (wpAny_standAt ?_)) fun _ _ x => x))
  have tail : ∀ {t : Sem Value}, wpS M A t Q E s₁ → wpS M A (t >>= fun r => holding [r] point >>= fun _ => pure r) Q E s₁ :=
    fun ht => wpS_bind (wpS_mono ht (fun r s₂ hr => wpS_of (wpAny_bind (wpAny_holding (wpAny_point (wpAny_pure hr))))) fun _ _ x => x)
  cases hs : args.any (·.1) <;> simp only [List.any_nil, Bool.or_false] <;>
    refine wpS_first (m := keeperOf (.ref a)) ?_ <;> unfold keeperOf <;>
    refine wpAny_bind (wpAny_load h₁.1.1 ?_) <;> rw [h₁.1.2] <;> refine wpAny_pure ?_
  · dsimp only
    split
    · exact tail h₁.2
    · exact tail (t := callMarked plainCall (.ref a) (first ++ x.pos) x.kw) (by unfold callMarked; exact wpS_keep h₁.2)
  · exact tail (t := callMarked starredCall (.ref a) (first ++ x.pos) x.kw) (by unfold callMarked; exact wpS_keep h₁.2)
theorem wpS_callWith_type {pos : Pos} {T : String} {first : List Value} {args : List (Bool × Sem Value)} {Q : Value → Shared → Prop} {M : Model} (hplain : args.any (·.1) = false)
    (h : wpS M A (evalArgs (.type T) true args []) (fun a s₁ => wpS M A (call (.type T) (first ++ a.pos) a.kw) Q E s₁) E s) :
    wpS M A (callWith pos (.type T) first args []) Q E s := by
  unfold callWith
  refine wpS_bind (wpS_holding (wpS_mono h (fun a s₁ h₁ => wpS_first (wpAny_standAt ?_)) fun _ _ x => x))
  simp only [hplain, List.any_nil, Bool.or_false]
  refine wpS_first (wpAny_pure ?_)
  exact wpS_bind (wpS_mono h₁ (fun r s₂ hr => wpS_of (wpAny_bind (wpAny_holding (wpAny_point (wpAny_pure hr))))) fun _ _ x => x)
theorem wpS_callWith_def {pos : Pos} {a : Addr} {o : Obj} {fd : FuncData} {e : PySem.Expr} {rest : List PySem.Expr} {Q : Value → Shared → Prop} {M : Model}
    (h : wpS M A (spliced (backTo pos (starEach (e :: rest) env))) (fun vs s₁ => (s₁.heap.get? a = some o ∧ o.data = .func fd) ∧ wpS M A (call (.ref a) vs) Q E s₁) E s)
    (he : starEach (e :: rest) env = (false, eval e env) :: starEach rest env := by rfl) :
    wpS M A (callWith pos (.ref a) [] (backTo pos (starEach (e :: rest) env)) []) Q E s := by
  rw [he] at h ⊢
  exact wpS_callWith_function (o := o) (fd := fd) (wpS_evalArgs_plain h)
theorem wpS_callWith_type1 {pos : Pos} {T : String} {e : PySem.Expr} {rest : List PySem.Expr} {Q : Value → Shared → Prop} {M : Model}
    (h : wpS M A (spliced (backTo pos (starEach (e :: rest) env))) (fun vs s₁ => wpS M A (call (.type T) vs) Q E s₁) E s)
    (he : starEach (e :: rest) env = (false, eval e env) :: starEach rest env := by rfl)
    (hplain : (backTo pos (starEach rest env)).any (·.1) = false := by rfl) :
    wpS M A (callWith pos (.type T) [] (backTo pos (starEach (e :: rest) env)) []) Q E s := by
  rw [he] at h ⊢
  exact wpS_callWith_type (by show (false || (backTo pos (starEach rest env)).any (·.1)) = false; rw [hplain]; rfl) (wpS_evalArgs_plain h)
end
end Mine
end
section
open PySem PySem.W PySem.Calls PyProof.Rows
namespace Mine
noncomputable abbrev Γ₀ : Ctx := ⟨.builtin "claim.caller" {}, none, none, [], none⟩
theorem clean₀ : CleanX Γ₀ := ⟨by decide, by intro x hx; cases hx⟩
theorem ends_clean {prog : Program} {w : World} {t : Sem Fin} {s : Shared} {R : Result → Shared → Prop} (hreg : s.asleep)
    (h : wpS (model prog w) callerA t (fun fin s' => ∃ f, fin = .done f ∧ (R (.ok f) s' ∧ leftWithCleanup s'.gens = false)) (fun e s' => R (.error e) s' ∧ leftWithCleanup s'.gens = false) s) :
    ∃ n r s' s'', runN (denote table) prog w n s ⟨t, .builtin "claim.caller" {}, default, []⟩ = .halted (outcomeOf r) s' ∧
      schedN (denote table) prog w n (.single s ⟨t, .builtin "claim.caller" {}, default, []⟩) = .halted (outcomeOf r) s' ∧ s'.forget = s''.forget ∧ R r s'' := by
  have hw : Sem.wp (model prog w) Γ₀ t (Sem.finPost (model prog w) Γ₀ fun r s' => R r s' ∧ leftWithCleanup s'.gens = false) (fun e _ s' => R (.error e) s' ∧ leftWithCleanup s'.gens = false) default s :=
    Sem.wp_mono _ Γ₀ t (fun fin p' s' h' => by obtain ⟨f, rfl, hf⟩ := h'; exact hf) (fun _ _ _ h' => h') _ _ (h Γ₀ default caller_in clean₀)
  obtain ⟨n, r, s₁, s₂, hs, hn, hfo, hR⟩ := wp_halts_full (M := model prog w) (R := R) hreg hw
  exact ⟨n, r, s₂, s₁, hn, hs, hfo, hR⟩
theorem callFrom_clean {c : ClaimW} {tree : List Value → Sem Fin} {w : World} {s : Shared} {free : Addr → Prop} {gens : Prop} {kept : Heap → Prop} (hz : s.asleep) (hgens : s.gens = #[])
    (spec : ∀ args, c.pre args = true → WData.layableAll args = true → ∀ ord : List DictEntry → List DictEntry, (∀ l, (ord l).Perm l) →
      ∃ vs s₁, layAllW c.records (classAt s.heap) w.params ord args s = some (vs, s₁) ∧
        wpS (model c.prog w) callerA (tree vs) (fun fin s' => ∃ f, fin = .done f ∧ (c.Ends s args vs s₁ (.ok f) s' ∧ s'.os = s.os ∧ AllBare s'.gens ∧ kept s'.heap))
          (fun e s' => c.Ends s args vs s₁ (.error e) s' ∧ s'.os = s.os ∧ AllBare s'.gens ∧ kept s'.heap) s₁) :
    c.CallFrom (fun vs => ⟨tree vs, .builtin "claim.caller" {}, default, []⟩) w free gens kept s := by
  intro args hpre hlay ord hord
  refine hideP fun GX hGX => ?_
  obtain ⟨vs, s₁, hlaid, hw⟩ := spec args hpre hlay ord hord
  have rest := layAllW_rest _ _ _ hlaid
  obtain ⟨k, r, s', s'', hrun, hsched, hfo, hends, hos, hkept⟩ := ends_clean (prog := c.prog) (w := w) (t := tree vs) (s := s₁) (R := fun r s' => c.Ends s args vs s₁ r s' ∧ s'.os = s.os ∧ kept s'.heap)
    (Shared.asleep_of_life rest.2.2.2 hz)
    (wpS_mono hw (fun fin s' h' => let ⟨f, e, a, b, d, k⟩ := h'; ⟨f, e, ⟨a, b, k⟩, leftWithCleanup_false_of_bare d⟩) fun e s' h' => let ⟨a, b, d, k⟩ := h'; ⟨⟨a, b, k⟩, leftWithCleanup_false_of_bare d⟩)
  obtain ⟨eh, _, _, eo, _⟩ := Shared.forget_eq hfo
  have hends := hends.congr eh
  rw [← eh] at hkept
  rw [← eo] at hos
  refine hGX ?_
  clear hGX GX
  refine ⟨vs, s₁, hlaid, k, _, s', hsched, ?_, (fun _ i x hx => by rw [hgens] at hx; simp at hx), hkept, by rw [(runN_life _ _ _ hrun).trans rest.2.2.2], Shared.rest_eq hos⟩
  rcases hends with ⟨v, rfl, d1, d2, d3, d4, d5⟩ | ⟨e, ob, cls, rfl, d1, d2, d3, d4, d5⟩
  · exact .inl ⟨v, rfl, d1, d2, d3, fun b o y _ => d4 b o y, d5⟩
  · exact .inr ⟨e, ob, cls, rfl, d1, d2, d3, d4, fun b o y _ => d5 b o y⟩
noncomputable abbrev WalkS (q : Program) (loose : List Str) (XP : (Str → Option Value) → Heap → Prop) (YP : World → Heap → Prop) (r : RowW) (d : DefRec) (kwd : List (Str × PySem.Expr)) (run : Value → List Value → Sem Value) : Prop :=
  ∀ (w : World) (s₀ s₁ : Shared) (mg mb : Str → Option Value), Ground q loose r.records XP w s₀ mg mb s₁.heap → YP w s₁.heap → ∀ (a : Addr) (o : Obj) (pm cd doc dV kV : Value), s₁.heap.get? a = some o →
    o.data = .func { docDef d.name d.params d.body d.scope pm cd doc with defaults := dV, kwdefaults := kV } → s₁.heap.CodeRec cd d.name → Dflts mg s₁.heap d.params kwd dV kV → mg d.name = some (.ref a) → s₁.gens = #[] →
    ∀ (args : List WData) (vals : List Value) (as : List Addr), r.claim.pre args = true → WData.layableAll args = true → ReadsAllW r.records (classAt s₀.heap) s₁.heap vals args as → WellAll w.params s₁.heap vals args → (∀ a ∈ as, (a == sysModules) = false) →
      wpS (model r.prog w) callerA (run (.ref a) vals) (fun v s' => GoodWG r.claim (classAt s₀.heap) (ExcName.means s₀.heap) args s₁ (.ok (.ret v)) s')
        (fun e s' => GoodWG r.claim (classAt s₀.heap) (ExcName.means s₀.heap) args s₁ (.error e) s') s₁
noncomputable abbrev LeftM (p q : Program) (loose : List Str) (Xt : Shared → Bool) {α : Type} (Yf : Shared → α) (Ya : World → α) (N : Nat) : Prop := LeftO p q loose Xt Yf Ya N
end Mine
namespace Mine.PySem.W
open _root_.Mine
theorem holds_open {r : OpenRow} {q : Program} {loose : List Str} {Xt : Shared → Bool} {XP : (Str → Option Value) → Heap → Prop} {α : Type} {Yf : Shared → α} {Ya : World → α} {YP : World → Heap → Prop} {d : DefRec} {kwd : List (Str × _root_.PySem.Expr)} {N : Nat}
    (left : LeftM r.prog q loose Xt Yf Ya N) (hY : ∀ w s, Yf s = Ya w → YP w s.heap) (hYk : ∀ w h h', YP w h → (∀ b o, h.get? b = some o → h'.get? b = some o) → YP w h')
    (hX : ∀ s, Xt s = true → XP (s.heap.nsMap mainGlobals) s.heap) (hXk : ∀ mg h h', XP mg h → (∀ b o, h.get? b = some o → h'.get? b = some o) → XP mg h')
    (hdef : defOf q r.name = some (d, kwd)) (hp : r.prog.theDef r.name = some (d.params, d.body, d.scope)) (hk : kwWritten? d.params.kwonlyargs d.params.kw_defaults = some kwd) (hRf : ∀ s, Xt s = true → RecFacts r.records s.heap) (hwr : (!r.writes || r.records.isEmpty) = true)
    (_k1 : true = true) (ok : (chainsOk q && opensWell r.prog && (frees r.toRowW && r.within.isEmpty)) = true) (hb : r.prog.bare) (hw : r.toRowW.promised)
    (walk : r.wellSaid = true ∧ WalkS q loose XP YP r.toRowW d kwd fun f vs => _root_.PySem.call f vs) : r.Holds := by
  have k1 := walk.1
  replace walk := walk.2
  refine hideP fun GX hGX => ?_
  obtain ⟨ok, k5⟩ := Bool.and_eq_true_iff.mp ok
  obtain ⟨hch, o1⟩ := Bool.and_eq_true_iff.mp ok
  obtain ⟨k5, k6⟩ := Bool.and_eq_true_iff.mp k5
  obtain ⟨hsame, hu, ha, hap, hm⟩ := frees_parts k5
  refine hGX ?_
  clear hGX GX
  refine ⟨k1, hw, ⟨hb, o1, by show r.makers.map _ = []; rw [hm]; rfl⟩, hw.witness, fun w => ⟨(left.behind hX hch w).1, fun s' hs' => ?_⟩⟩
  refine hideP fun GX hGX => ?_
  obtain ⟨s₀, hf, hg0, s, hT, hz, hgens, hg, G00, y⟩ := (left.behind (XP := fun mg h => XP mg h ∧ RecFacts r.records h) (fun s hs => ⟨hX s hs, hRf s hs⟩) hch w).2 s' hs'
  have G0 : Ground q loose [] XP w s (s.heap.nsMap mainGlobals) (s.heap.nsMap builtinsNs) s.heap := ⟨G00.T, G00.B, G00.D, G00.TE, G00.TD, G00.W, G00.X.1, G00.cls, G00.has, G00.apart, G00.once, G00.K⟩
  have RF := G00.X.2
  refine hGX ?_
  clear hGX GX
  refine ⟨s₀, hf, hg0, s, hT, fun n hn => ?_, RF.1, RF.2.1, ?_⟩
  · obtain rfl : n = r.name := by split at hn <;> simp_all
    exact pinned_of_view hg G0 hdef hp hk
  have hgens : s.gens = #[] := Array.eq_empty_of_size_eq_zero (beq_iff_eq.mp hgens)
  have G : Ground q loose r.records XP w s _ _ s.heap := RF.ground G0
  refine callFrom_clean (c := r.claim) (tree := fun vs => do match ← nsGet mainNs r.name with
      | some f => do ret (← _root_.PySem.call f vs)
      | none => unsupported "claim.caller:no-such-global") hz hgens fun args hpre hlay ord hord => ?_
  refine hideP fun GX hGX => ?_
  obtain ⟨⟨vs, s₁⟩, hlaid⟩ := Option.isSome_iff_exists.mp (layAllW_isSome (P := w.params) (ord := ord) G.has args r.args s (pre_splitW hpre).1)
  have keeps := layAllW_keeps _ _ _ hlaid
  have hal := layAllW_rest _ _ _ hlaid
  obtain ⟨as, hrd, hin, hold⟩ := reads_layAllW hord _ _ _ hlaid hlay s₁.heap (fun _ _ e => e)
  have L : Laid r.records w s s₁ args vs as := ⟨⟨ord, hord, hlaid⟩, hrd, hin, hold, keeps, hal.1.trans hgens, hal.2.2.1⟩
  have G₁ := G.keeps hXk keeps
  obtain ⟨a, o, pm, cd, doc, dV, kV, h1, h2, h3, h4, h5⟩ := G₁.fn hdef
  have hi := ident_freeW hu ha hap
  have hwi : r.claim.within = [] := List.isEmpty_iff.mp k6
  have W := walk w s s₁ _ _ G₁ (hYk _ _ _ (hY w s y) keeps) a o pm cd doc dV kV h2 h3 h4 h5 (defOf_name hdef ▸ h1) L.gens args vs as hpre hlay L.reads L.well (L.low G.low)
  refine hGX ?_
  clear hGX GX
  refine ⟨vs, s₁, hlaid, wpS_first (wpAny_nsGet G₁.T.g ?_)⟩
  rw [h1]
  refine wpS_bind (wpS_mono W (fun v s' g => wpS_pure ⟨_, rfl, ?_⟩) fun e s' g => ?_)
  · have z := g.laid (c := r.claim) hsame hwi hi L
    exact ⟨z.1, z.2.1, z.2.2, fun q => ⟨namesKept_of hT hg _ keeps g.2.1.old, noTable hwr q⟩⟩
  · have z := g.laid (c := r.claim) hsame hwi hi L
    exact ⟨z.1, z.2.1, z.2.2, fun q => ⟨namesKept_of hT hg _ keeps g.2.1.old, noTable hwr q⟩⟩
end Mine.PySem.W
end
section
open PySem PySem.W PySem.Calls PyProof.Rows
namespace Mine
set_option maxRecDepth 100000 in
theorem law_said : PySem.Challenge.rw_zn0014_01.wellSaid = true := by
  unfold OpenLaw.wellSaid OpenRow.wellSaid OpenRow.partSaid looksOpen
  repeat' (with_reducible refine look_both ?_ ?_)
  all_goals decide +kernel
set_option maxRecDepth 100000 in
set_option maxHeartbeats 8000000 in
open_top hd for PySem.Challenge.rw_zn0014_01.row
end Mine
end
section
open PySem PySem.W PySem.Calls PyProof.Rows
namespace Mine
noncomputable abbrev tA (dp un : Nat) (gd : Option (List Code)) (outer : List Env) : Around := { handled := none, depth := dp, frames := some outer, guards := gd, units := un }
theorem wp_moreA {α : Type} {M : Model} {A A' : Around} {t : Sem α} {Q : α → Shared → Prop} {E : Value → Shared → Prop} {s : Shared}
    (hh : A'.handled = A.handled) (hd : A.depth ≤ A'.depth) (hf : A'.frames = A.frames) (hg : A'.guards = A.guards) (hu : A.units ≤ A'.units)
    (h : wpAny M A' t Q E s) : wpAny M A t Q E s := fun Γ p hΓ =>
  h Γ p ⟨hΓ.1.trans hh.symm, Nat.le_trans hΓ.2.1 hd, fun l hl => hΓ.2.2.1 l (hf ▸ hl), fun g hl => hΓ.2.2.2.1 g (hg ▸ hl), Nat.le_trans hΓ.2.2.2.2 hu⟩
noncomputable def Con (w : World) (dp un : Nat) (f : Addr) (args : List Value) (pre : Heap → Prop) (post : Value → List (Addr × Obj) → Prop) : Prop :=
  ∀ (gd : Option (List Code)) (outer : List Env) (base : Heap) (s : Shared) (tp : Program) (lo : List Str) (mean : ExcName → Option Value) (mg mb : Str → Option Value) (Q E : Value → Shared → Prop),
    Below (tA dp un gd outer) base outer s.heap → (hd.heap_1 w.params).In s.heap → Top tp lo mean mg mb s.heap → pre s.heap →
    (∀ r tl h' tk', s.heap.StaysIn h' → (∀ p ∈ tl, h'.get? p.1 = some p.2 ∧ s.heap.get? p.1 = none) → post r tl → Q r { s with heap := h', toks := tk' }) →
    wpAny (model PySem.Challenge.rw_zn0014_01.prog w) (tA dp un gd outer) (call (.ref f) args) Q E s
theorem useCon {w : World} {dp un d u : Nat} {f : Addr} {args : List Value} {pre : Heap → Prop} {post : Value → List (Addr × Obj) → Prop} (C : Con w dp un f args pre post)
    {gd : Option (List Code)} {outer : List Env} {env : Env} {base h₀ : Heap} {A₀ : Around} {s : Shared} {L : Addr} {m : Str → Option Value} {news : List (Addr × Obj)} {tp : Program} {lo : List Str} {mean : ExcName → Option Value} {mg mb : Str → Option Value} {Q E : Value → Shared → Prop}
    (B : Below A₀ base outer h₀) (F : Fr h₀ L s.heap m) (X : (hd.heap_1 w.params).In h₀) (N : News h₀ L s.heap news) (T : Top tp lo mean mg mb h₀) (hf : env.frame = some L) (hke : env.scope.kind = .function)
    (hd : d ≤ dp) (hu : u ≤ un) (hpre : pre s.heap)
    (h : ∀ r tl h' tk', Fr h₀ L h' m → News h₀ L h' (tl ++ news) → (∀ q ∈ news, ∀ p ∈ tl, q.1 ≠ p.1) → s.heap.StaysIn h' → post r tl → Q r { s with heap := h', toks := tk' }) :
    wpAny (model PySem.Challenge.rw_zn0014_01.prog w) (tA d u gd (env :: outer)) (call (.ref f) args) Q E s := by
  have B' := pushX B F hf hke
  refine wp_moreA (A' := tA dp un gd (env :: outer)) rfl hd rfl rfl hu (C gd (env :: outer) base s tp lo mean mg mb Q E ⟨rfl, B'.stays, B'.frames⟩ (X.keeps F.keep) (T.keeps F.keep) hpre fun r tl h' tk' st hn hp => ?_)
  refine h r tl h' tk' (F.keeps st) (fun p hq => ?_) (fun q hq p hp e => ?_) st hp
  · rcases List.mem_append.mp hq with hq | hq
    · have nn := (hn p hq).2
      refine ⟨(hn p hq).1, fun e => ?_, ?_⟩
      · obtain ⟨oL, _, _, hL, _⟩ := F.ns
        rw [e, hL] at nn; cases nn
      · cases e : h₀.get? p.1 with
        | none => rfl
        | some o => rw [F.keep _ _ e] at nn; cases nn
    · exact ⟨st _ _ (N p hq).1, (N p hq).2⟩
  · have nn := (hn p hp).2
    rw [← e, (N q hq).1] at nn; cases nn
noncomputable def Back (s : Shared) (P : Value → List (Addr × Obj) → Prop) (v : Value) (s' : Shared) : Prop :=
  ∃ L m news tl h' tk', s' = { s with heap := h', toks := tk' } ∧ Fr s.heap L h' m ∧ News s.heap L h' news ∧ (∀ p ∈ tl, p ∈ news) ∧ P v tl
theorem Back.intro {s : Shared} {P : Value → List (Addr × Obj) → Prop} {v : Value} {L : Addr} {m : Str → Option Value} {news : List (Addr × Obj)} {h' : Heap} {tk' : Nat} (F : Fr s.heap L h' m) (N : News s.heap L h' news)
    (tl : List (Addr × Obj)) (hs : ∀ p ∈ tl, p ∈ news) (hp : P v tl) : Back s P v { s with heap := h', toks := tk' } := ⟨L, m, news, tl, h', tk', rfl, F, N, hs, hp⟩
section
variable {w : World} {dp un : Nat} {gd : Option (List Code)} {outer : List Env} {base : Heap} {s : Shared} {tp : Program} {lo : List Str} {mean : ExcName → Option Value} {mg mb : Str → Option Value} {Q E : Value → Shared → Prop}
  {name qual : Str} {params : Arguments} {body : List Stmt} {scope : Scope} {dV kV doc pm cdv ct oc : Value} {an od : Option Addr} {osl : Array (Option Value)} {f : Addr} {args : List Value} {binds : List (Str × Value)} {P : Value → List (Addr × Obj) → Prop}
theorem back_use (hQ : ∀ r tl h' tk', s.heap.StaysIn h' → (∀ p ∈ tl, h'.get? p.1 = some p.2 ∧ s.heap.get? p.1 = none) → P r tl → Q r { s with heap := h', toks := tk' }) {v : Value} {s' : Shared} (h : Back s P v s') : Q v s' := by
  obtain ⟨L, m, news, tl, h', tk', rfl, F, N, hs, hp⟩ := h
  exact hQ v tl h' tk' F.keep (fun p hq => ⟨(N p (hs p hq)).1, (N p (hs p hq)).2.2⟩) hp
theorem enterP (B : Below (tA dp un gd outer) base outer s.heap) (X : (hd.heap_1 w.params).In s.heap) (T : Top tp lo mean mg mb s.heap)
    (hQ : ∀ r tl h' tk', s.heap.StaysIn h' → (∀ p ∈ tl, h'.get? p.1 = some p.2 ∧ s.heap.get? p.1 = none) → P r tl → Q r { s with heap := h', toks := tk' })
    (ho : (hd.heap_1 w.params).lookup f = some ⟨oc, od, .func (fnOf name qual params body scope dV kV doc pm an cdv ct), osl⟩) (hcd : codeIn (hd.heap_1 w.params) cdv qual = true) (hroom : (tA dp un gd outer).depth < recursionLimit)
    (hbind : BindsTo s (fnOf name qual params body scope dV kV doc pm an cdv ct) ⟨args, []⟩ binds) (hloc : ∀ y ∈ binds, scope.names.lookup y.1 = some .local)
    (h : ∀ L' h₁, Fr s.heap L' h₁ (fun y => binds.reverse.lookup y) → News s.heap L' h₁ [] →
      wpAny (model PySem.Challenge.rw_zn0014_01.prog w) (tA (dp + 1) (un + 3) gd (envOf qual scope L' f cdv :: outer)) (execs body (envOf qual scope L' f cdv))
        (fun fl s' => Back s P (match fl with | .ret v => v | _ => .none) s') (fun _ _ => False) { s with heap := h₁, toks := s.toks + binds.length })
    (hco : scope.isCoroutine = false) (hgen : scope.isGenerator = false) (hk : scope.kind = .function) (hcell : ∀ x ∈ scope.names, x.2 ≠ .cell) :
    wpAny (model PySem.Challenge.rw_zn0014_01.prog w) (tA dp un gd outer) (call (.ref f) args) Q E s := by
  refine wpAny_call ?_
  refine codeAny_call_def (fd := fnOf name qual params body scope dV kV doc pm an cdv ct) (body := body) (binds := binds) hroom (X _ _ ho) rfl T.nolimit (codeRec_of X hcd) rfl hbind hcell hloc (fun h₁ hns hk₁ => ?_) hco hgen hk
  refine wpAny_mono (h s.heap.objs.size h₁ ⟨hns, hk₁, Nat.le_refl _⟩ News.nil) (fun fl s' hb => ?_) (fun _ _ hf => hf.elim)
  exact back_use hQ hb
end
theorem enterC {w : World} {dp un : Nat} {gd : Option (List Code)} {outer : List Env} {base : Heap} {s : Shared} {tp : Program} {lo : List Str} {mean : ExcName → Option Value} {mg mb : Str → Option Value} {Q E : Value → Shared → Prop}
  {name qual : Str} {params : Arguments} {body : List Stmt} {scope : Scope} {dV kV doc pm cdv ct oc : Value} {an od : Option Addr} {osl : Array (Option Value)} {f : Addr} {args : List Value} {binds : List (Str × Value)} {P : Value → List (Addr × Obj) → Prop}
    (B : Below (tA dp un gd outer) base outer s.heap) (X : (hd.heap_1 w.params).In s.heap) (T : Top tp lo mean mg mb s.heap)
    (hQ : ∀ r tl h' tk', s.heap.StaysIn h' → (∀ p ∈ tl, h'.get? p.1 = some p.2 ∧ s.heap.get? p.1 = none) → P r tl → Q r { s with heap := h', toks := tk' })
    (ho : (hd.heap_1 w.params).lookup f = some ⟨oc, od, .func (fnOf name qual params body scope dV kV doc pm an cdv ct), osl⟩) (hcd : codeIn (hd.heap_1 w.params) cdv qual = true) (hroom : (tA dp un gd outer).depth < recursionLimit)
    (hbind : BindsTo s (fnOf name qual params body scope dV kV doc pm an cdv ct) ⟨args, []⟩ binds) (hkind : (binds.all fun y => scope.names.lookup y.1 == some .local || scope.names.lookup y.1 == some .cell) = true)
    (hnd : ((cellsFrom 0 scope.names []).map (·.1)).Nodup)
    (h : ∀ L' h₁ tk cells, Fr s.heap L' h₁ (bindL (envOfC qual scope L' f cdv).kindOf binds fun _ => none) → News s.heap L' h₁ cells →
      CellsAre (bindC (envOfC qual scope L' f cdv).kindOf binds fun _ => none) (cellsFrom (L' + 1) scope.names []) cells →
      wpAny (model PySem.Challenge.rw_zn0014_01.prog w) (tA (dp + 1) (un + 3) gd (envOfC qual scope L' f cdv :: outer)) (execs body (envOfC qual scope L' f cdv))
        (fun fl s' => Back s P (match fl with | .ret v => v | _ => .none) s') (fun _ _ => False) { s with heap := h₁, toks := tk })
    (hco : scope.isCoroutine = false) (hgen : scope.isGenerator = false) (hk : scope.kind = .function) :
    wpAny (model PySem.Challenge.rw_zn0014_01.prog w) (tA dp un gd outer) (call (.ref f) args) Q E s := by
  refine wpAny_call ?_
  refine codeAny_call_function hroom (X _ _ ho) rfl hco hgen rfl (codeRec_of X hcd) (hbind _ _ _ _ ?_)
  refine wpAny_newFunctionEnv_cells hk (kindsX hkind _) fun env' he s' x => ?_
  subst he
  refine ⟨T.nolimit.keeps x.toInCall.keep, codeAny_func ?_⟩
  obtain ⟨h₁, tk, rfl, _⟩ := x.done
  obtain ⟨cells, NC, Y⟩ := Cl.news (h₀ := s.heap) (Nat.le_refl _) fun n c hm => ⟨x.cell n c (lookup_of_mem_nodup (cellsFrom_names scope.names 0 (s.heap.objs.size + 1) [] [] rfl ▸ hnd) hm), x.above n c hm⟩
  refine wpAny_mono (h s.heap.objs.size h₁ tk cells ⟨x.toInCall.ns, x.toInCall.keep, Nat.le_refl _⟩ NC Y) (fun fl s' hb => ?_) (fun _ _ hf => hf.elim)
  exact back_use hQ hb
end Mine
end
section
open PySem PySem.W PySem.W.X PyProof.Rows
namespace Mine
set_option maxRecDepth 100000
set_option maxHeartbeats 8000000
theorem mem_stays {h₀ h : Heap} {news : List (Addr × Obj)} (D : Mem h₀ h [] news) : h₀.StaysIn h := fun b o e => D.keep b o e (by simp [away])
local macro_rules | `(tactic| x_close) => `(tactic| first | with_unfolding_all assumption | (apply_assumption; exact mem_stays (by assumption)))
theorem join3 {w : World} {A : Around} {Q E : Value → Shared → Prop} {s : Shared} {D : Addr} {a b c n : Nat} {t t1 t2 t3 : Tok}
   (_hD : s.heap.get? D = some ⟨.type "list", none, .seq #[.str ⟨#[a]⟩ t1, .str ⟨#[b]⟩ t2, .str ⟨#[c]⟩ t3] n, #[]⟩)
  (_h : Q (.str ⟨#[a, b, c]⟩ s.toks) { s with toks := s.toks + 1 }) : wpAny (model PySem.Challenge.rw_zn0014_01.prog w) A (call (.builtin "str.join") [.str (Str.ofString "") t, .ref D]) Q E s := by
  w_top off
  x_run
theorem join5 {w : World} {A : Around} {Q E : Value → Shared → Prop} {s : Shared} {D : Addr} {a b c d e n : Nat} {t t1 t2 t3 t4 t5 : Tok}
   (_hD : s.heap.get? D = some ⟨.type "list", none, .seq #[.str ⟨#[a]⟩ t1, .str ⟨#[b]⟩ t2, .str ⟨#[c]⟩ t3, .str ⟨#[d]⟩ t4, .str ⟨#[e]⟩ t5] n, #[]⟩)
  (_h : Q (.str ⟨#[a, b, c, d, e]⟩ s.toks) { s with toks := s.toks + 1 }) : wpAny (model PySem.Challenge.rw_zn0014_01.prog w) A (call (.builtin "str.join") [.str (Str.ofString "") t, .ref D]) Q E s := by
  w_top off
  x_run
theorem hasattr_str {w : World} {A : Around} {Q E : Value → Shared → Prop} {s : Shared} {x : Str} {t t' : Tok} (_X : (hd.heap_1 w.params).In s.heap) 
  (_h : ∀ h', s.heap.StaysIn h' → Q (.bool true) { s with heap := h' }) : wpAny (model PySem.Challenge.rw_zn0014_01.prog w) A (call (.builtin "hasattr") [.str x t, .str (Str.ofString "__getitem__") t']) Q E s := by
  w_top off
  x_run
end Mine
end
section
open PySem PySem.W PySem.Calls PyProof.Rows PyProof.Rows.LCg
set_option maxRecDepth 100000
namespace Mine
noncomputable abbrev ff {α : Type} : α → Shared → Prop := fun _ _ => False
noncomputable abbrev tests (ifs : List PySem.Expr) (env : Env) : Sem Bool := forIn ifs true fun c r => if r = true then do let ok ← isTrue c env (eval c env); pure (ForInStep.yield ok) else pure (ForInStep.yield r)
noncomputable abbrev lastTurn (elt target iter : PySem.Expr) (ifs : List PySem.Expr) (e : PySem.Expr) (d : Nat) (it acc : Value) (env : Env) : Sem PySem.Fin := do
      standAt iter.pos
      match ← pyNext it with
      | none => pure (.done .next)
      | some v =>
        letOwnedTupleGo target it v
        assign target env v
        let ok ← tests ifs env
        if ok then
          (do let _ ← call (.builtin "list.append") [acc, ← eval elt env])
        again (.compLoop e d it acc env)
noncomputable abbrev outerTurn (target iter : PySem.Expr) (ifs : List PySem.Expr) (iter' : PySem.Expr) (e : PySem.Expr) (it acc : Value) (env : Env) : Sem PySem.Fin := do
      standAt iter.pos
      match ← pyNext it with
      | none => pure (.done .next)
      | some v =>
        letOwnedTupleGo target it v
        assign target env v
        let ok ← tests ifs env
        if ok then do
            let x ← eval iter' env
            standAt iter'.pos
            let x ← foldedSetIterable iter' env x
            let i ← holding [x] (pyIter x)
            let _ ← runOwn (.compStart e 1 i acc env) env
            again (.compLoop e 0 it acc env)
        else again (.compLoop e 0 it acc env)
theorem compTurn_last (elt target iter : PySem.Expr) (ifs : List PySem.Expr) (scope : Scope) (pos : Pos) (it acc : Value) (env : Env) :
    compTurn (.ListComp elt [⟨target, iter, ifs, 0⟩] scope pos) 0 it acc env = lastTurn elt target iter ifs (.ListComp elt [⟨target, iter, ifs, 0⟩] scope pos) 0 it acc env := by rfl
theorem compTurn_inner (elt target iter target₀ iter₀ : PySem.Expr) (ifs ifs₀ : List PySem.Expr) (scope : Scope) (pos : Pos) (it acc : Value) (env : Env) :
    compTurn (.ListComp elt [⟨target₀, iter₀, ifs₀, 0⟩, ⟨target, iter, ifs, 0⟩] scope pos) 1 it acc env = lastTurn elt target iter ifs (.ListComp elt [⟨target₀, iter₀, ifs₀, 0⟩, ⟨target, iter, ifs, 0⟩] scope pos) 1 it acc env := by rfl
theorem compTurn_outer (elt target iter target₀ iter₀ : PySem.Expr) (ifs ifs₀ : List PySem.Expr) (scope : Scope) (pos : Pos) (it acc : Value) (env : Env) :
    compTurn (.ListComp elt [⟨target₀, iter₀, ifs₀, 0⟩, ⟨target, iter, ifs, 0⟩] scope pos) 0 it acc env = outerTurn target₀ iter₀ ifs₀ iter (.ListComp elt [⟨target₀, iter₀, ifs₀, 0⟩, ⟨target, iter, ifs, 0⟩] scope pos) it acc env := by rfl
section
variable {prog : Program} {w : World} {A : Around} {s : Shared} {h₀ : Heap} {L : Addr} {m : Str → Option Value} {env : Env} {R : Result → Shared → Prop}
noncomputable def Nxt (s : Shared) (h₀ : Heap) (L : Addr) (m : Str → Option Value) (I : Addr) (oI : Obj) (C D : Addr) (S : List (Addr × Obj) → Prop) (K : (Str → Option Value) → List Value → List (Addr × Obj) → Prop) (s' : Shared) : Prop :=
  ∃ h' tk' m₂ oC ys news, s' = { s with heap := h', toks := tk' } ∧ Fr h₀ L h' m ∧ News h₀ L h' ((I, oI) :: (C, oC) :: (D, lst ys) :: news) ∧ NsObj oC m₂ ∧ Off3 I C D news ∧ S news ∧ K m₂ ys news
theorem Nxt.intro {s : Shared} {I C D : Addr} {oI oC : Obj} {S : List (Addr × Obj) → Prop} {K : (Str → Option Value) → List Value → List (Addr × Obj) → Prop} {h' : Heap} {tk' : Nat} {m₂ : Str → Option Value} {ys : List Value} {all : List (Addr × Obj)}
    (F : Fr h₀ L h' m) (N : News h₀ L h' all) (news : List (Addr × Obj)) (hC : NsObj oC m₂) (sub : ∀ p ∈ (I, oI) :: (C, oC) :: (D, lst ys) :: news, p ∈ all) (off : Off3 I C D news) (hS : S news) (k : K m₂ ys news) :
    Nxt s h₀ L m I oI C D S K { s with heap := h', toks := tk' } := ⟨h', tk', m₂, oC, ys, news, rfl, F, fun p hp => N p (sub p hp), hC, off, hS, k⟩
noncomputable abbrev LcInv (s₃ : Shared) (h₀ : Heap) (L : Addr) (m : Str → Option Value) (I C D : Addr) (n : Nat) (St : Nat → Heap → Prop) (S : List (Addr × Obj) → Prop) (J : Nat → (Str → Option Value) → List Value → List (Addr × Obj) → Prop) (k : Nat) (s' : Shared) : Prop :=
  ∃ h' tk i ys m' oC' news', s' = { s₃ with heap := h', toks := tk } ∧ i ≤ n ∧ k = n + 1 - i ∧ St i h' ∧ Fr h₀ L h' m ∧ NsObj oC' m' ∧ News h₀ L h' ((C, oC') :: (D, lst ys) :: news') ∧ Off3 I C D news' ∧ S news' ∧ J i m' ys news'
theorem lc_last {elt iter : PySem.Expr} {gens : List Comprehension} {scope : Scope} {pos px : Pos} {d : Nat} {I C D : Addr} {cl : List (Str × Addr)} {x : Str} {ifs : List PySem.Expr} {fp : List Addr} {n : Nat} {P : Nat → Value → Prop} {St : Nat → Heap → Prop} {S : List (Addr × Obj) → Prop}
    {J : Nat → (Str → Option Value) → List Value → List (Addr × Obj) → Prop} {m₂ : Str → Option Value} {oC : Obj} {ys : List Value} {news : List (Addr × Obj)}
    (he : compTurn (.ListComp elt gens scope pos) d (.ref I) (.ref D) (compEnvC scope cl C env) = lastTurn elt (.Name x px) iter ifs (.ListComp elt gens scope pos) d (.ref I) (.ref D) (compEnvC scope cl C env))
    (W : Walks prog w A I fp [I] n P St) (hIo : ∀ i h, St i h → ∃ o, h.get? I = some o)
    (hSt : ∀ i h h' o nw, St i h → h.get? I = some o → h'.get? I = some o → (∀ b o, h₀.get? b = some o → h'.get? b = some o) → News h₀ L h' nw → S nw → St i h')
    (hkind : scope.kind = .function) (hx : scope.names.lookup x = some .local) (hfp : C ∉ fp ∧ D ∉ fp) (hI₀ : h₀.get? I = none)
    (hlen : ∀ i m₂ ys news, J i m₂ ys news → ys.length ≤ sizeLine)
    (step : ∀ i v m₂ ys news oI oC h tk, i < n → P i v → J i m₂ ys news → NsObj oC (fun z => if z = x then some v else m₂ z) → Fr h₀ L h m → News h₀ L h ((I, oI) :: (C, oC) :: (D, lst ys) :: news) → Off3 I C D news → (I ≠ C ∧ I ≠ D ∧ C ≠ D) → S news →
      wpAny (model prog w) A (tests ifs (compEnvC scope cl C env)) (fun ok s' => if ok = true then wpAny (model prog w) A (eval elt (compEnvC scope cl C env)) (fun y => Nxt s h₀ L m I oI C D S fun m₂' ys' news' => ys' = ys ∧ J (i + 1) m₂' (ys ++ [y]) news') ff s' else Nxt s h₀ L m I oI C D S (J (i + 1)) s') ff { s with heap := h, toks := tk })
    (done : ∀ m₂ ys news oC h tk, J n m₂ ys news → NsObj oC m₂ → Fr h₀ L h m → News h₀ L h ((C, oC) :: (D, lst ys) :: news) → Off3 I C D news → C ≠ D → S news → R (.ok .next) { s with heap := h, toks := tk })
    (hst : St 0 s.heap) (F : Fr h₀ L s.heap m) (hC : NsObj oC m₂) (N : News h₀ L s.heap ((C, oC) :: (D, lst ys) :: news)) (hIL : L ≠ I) (off : Off3 I C D news) (ne : I ≠ C ∧ I ≠ D ∧ C ≠ D) (hS : S news) (hJ : J 0 m₂ ys news) :
    codeAny (model prog w) A (.compLoop (.ListComp elt gens scope pos) d (.ref I) (.ref D) (compEnvC scope cl C env)) R s := by
  have loop : ∀ s₃ : Shared, s₃ = s → codeAny (model prog w) A (.compLoop (.ListComp elt gens scope pos) d (.ref I) (.ref D) (compEnvC scope cl C env)) R s₃ := by
    rintro s₃ rfl
    refine codeAny_loop rfl
      (LcInv s₃ h₀ L m I C D n St S J) (fun k s' hI => ?_) (n + 1)
      ⟨s₃.heap, _, 0, ys, m₂, oC, news, rfl, Nat.zero_le _, rfl, hst, F, hC, N, off, hS, hJ⟩
    refine hideP fun G hG => ?_
    obtain ⟨h', tk, i, ys, m', oC', news', rfl, hi, rfl, hst', F', hC', N', off', hS', hJ'⟩ := hI
    refine hG ?_
    clear hG G
    show wpAny _ A ((compTurn (.ListComp elt gens scope pos) d (.ref I) (.ref D) (compEnvC scope cl C env)).onRaise (fun x => do noteFrame x (compEnvC scope cl C env); theTreesLotGoes x)) _ _ _
    refine wpAny_noted ?_
    rw [he]
    have hCL : C ≠ L := (N' (C, oC') List.mem_cons_self).2.1
    have hC₀ : h₀.get? C = none := (N' (C, oC') List.mem_cons_self).2.2
    have hD := N' (D, lst ys) (List.mem_cons_of_mem _ List.mem_cons_self)
    have hDL : D ≠ L := hD.2.1
    have hD₀ : h₀.get? D = none := hD.2.2
    refine wpAny_bind (wpAny_standAt (wpAny_bind ?_))
    by_cases hlt : i < n
    · refine W.item i _ _ _ hlt hst' fun v h₂ tk₂ hPv hst₂ hk₂ => ?_
      refine wpAny_bind (wpAny_of_eq (a := ()) (by rfl) ?_)
      refine wpAny_bind (wpAny_assign_Name (wpAny_storeName_local (lookup_relabel_local hx) ((hC'.ns (N' (C, oC') List.mem_cons_self).1).at' fun o e => hk₂ _ o (by simpa using Ne.symm ne.1) e) (fun h₃ hn₃ hs₃ => ?_) (by simp [compEnvC, relabel, hkind])))
      have hst₃ : St (i + 1) h₃ := W.frame _ _ _ hst₂ fun b hb o e => hs₃.extBut b o (fun q => hfp.1 (by have q' : b = C := q; rw [← q']; exact hb)) e
      obtain ⟨oI, heI⟩ := hIo _ _ hst₃
      obtain ⟨oC, heC, hoC⟩ := ns_obj hn₃
      have F₃ : Fr h₀ L h₃ m := (fr_but F' hk₂ hIL hI₀).change hs₃ hCL hC₀
      have off3 := off'.mem
      have N₃ : News h₀ L h₃ ((I, oI) :: (C, oC) :: (D, lst ys) :: news') := fun p hp => by
        rcases List.mem_cons.mp hp with rfl | hp
        · exact ⟨heI, Ne.symm hIL, hI₀⟩
        · rcases List.mem_cons.mp hp with rfl | hp
          · exact ⟨heC, hCL, hC₀⟩
          · have z := N' p (List.mem_cons_of_mem _ hp)
            have hne : p.1 ≠ I ∧ p.1 ≠ C := by
              rcases List.mem_cons.mp hp with rfl | hp
              · exact ⟨Ne.symm ne.2.1, Ne.symm ne.2.2⟩
              · exact ⟨(off3 p hp).1, (off3 p hp).2.1⟩
            exact ⟨hs₃.extBut _ _ hne.2 (hk₂ _ _ (by simpa using hne.1) z.1), z.2⟩
      refine wpAny_bind (wpAny_mono (step i v m' ys news' oI oC h₃ _ hlt hPv hJ' (by simpa using hoC) F₃ N₃ off' ne hS') (fun ok s₄ h₄ => ?_) fun _ _ e => e.elim)
      cases ok with
      | false =>
        simp only [Bool.false_eq_true, if_false] at h₄ ⊢
        refine hideP fun G hG => ?_
        obtain ⟨h₅, tk₅, m₅, oC₅, ys₅, news₅, rfl, F₅, N₅, hC₅, off₅, hS₅, hJ₅⟩ := h₄
        refine hG ?_
        clear hG G
        have zI := (N₅ (I, oI) List.mem_cons_self).1
        have N₅' : News h₀ L h₅ news₅ := fun p hp => N₅ p (List.mem_cons_of_mem _ (List.mem_cons_of_mem _ (List.mem_cons_of_mem _ hp)))
        refine wpAny_pure ⟨rfl, n + 1 - (i + 1), by omega, h₅, tk₅, i + 1, ys₅, m₅, oC₅, news₅, rfl, hlt, rfl, hSt _ _ _ _ _ hst₃ heI zI F₅.keep N₅' hS₅, F₅, hC₅, fun p hp => N₅ p (List.mem_cons_of_mem _ hp), off₅, hS₅, hJ₅⟩
      | true =>
        simp only [if_true] at h₄ ⊢
        refine wpAny_bind (wpAny_bind (wpAny_mono h₄ (fun y s₅ h₅ => ?_) fun _ _ e => e.elim))
        refine hideP fun G hG => ?_
        obtain ⟨h₅, tk₅, m₅, oC₅, ys₅, news₅, rfl, F₅, N₅, hC₅, off₅, hS₅, rfl, hJ₅⟩ := h₅
        refine hG ?_
        clear hG G
        have zI := (N₅ (I, oI) List.mem_cons_self).1
        have zC := (N₅ (C, oC₅) (List.mem_cons_of_mem _ List.mem_cons_self)).1
        have zD := (N₅ (D, lst ys₅) (List.mem_cons_of_mem _ (List.mem_cons_of_mem _ List.mem_cons_self))).1
        have N₅' : News h₀ L h₅ news₅ := fun p hp => N₅ p (List.mem_cons_of_mem _ (List.mem_cons_of_mem _ (List.mem_cons_of_mem _ hp)))
        have hst₅ : St (i + 1) h₅ := hSt _ _ _ _ _ hst₃ heI zI F₅.keep N₅' hS₅
        refine wpAny_bind (append_at (hsz := by show ys₅.toArray.size ≤ sizeLine; rw [List.size_toArray]; exact hlen _ _ _ _ hJ') zD fun h₆ hs₆ hD₆ => ?_)
        have off5 := off₅.mem
        refine wpAny_pure (wpAny_pure ⟨rfl, n + 1 - (i + 1), by omega, h₆, tk₅, i + 1, ys₅ ++ [y], m₅, oC₅, news₅, rfl, hlt, rfl, W.frame _ _ _ hst₅ fun b hb o e => hs₆.extBut b o (fun q => hfp.2 (by have q' : b = D := q; rw [← q']; exact hb)) e, F₅.change hs₆ hDL hD₀, hC₅, fun p hp => ?_, off₅, hS₅, hJ₅⟩)
        rcases List.mem_cons.mp hp with rfl | hp
        · exact ⟨hs₆.extBut _ _ ne.2.2 zC, hCL, hC₀⟩
        · rcases List.mem_cons.mp hp with rfl | hp
          · exact ⟨hD₆.trans (congrArg some (lst_snoc ys₅ y)), hDL, hD₀⟩
          · exact ⟨hs₆.extBut _ _ (off5 p hp).2.2 (N₅' p hp).1, (N₅' p hp).2⟩
    · obtain rfl : i = n := Nat.le_antisymm hi (Nat.not_lt.mp hlt)
      refine W.done _ _ _ hst' fun h₂ tk₂ hk₂ => wpAny_pure ?_
      have off3 := off'.mem
      exact done _ _ _ _ h₂ tk₂ hJ' hC' (fr_but F' hk₂ hIL hI₀) (news_but N' hk₂ fun p hp => by
        rcases List.mem_cons.mp hp with rfl | hp
        · exact Ne.symm ne.1
        · rcases List.mem_cons.mp hp with rfl | hp
          · exact Ne.symm ne.2.1
          · exact (off3 p hp).1) off' ne.2.2 hS'
  exact loop s rfl
theorem lc_outer {elt iter iter' target' : PySem.Expr} {ifs' : List PySem.Expr} {gens : List Comprehension} {scope : Scope} {pos px : Pos} {I C D : Addr} {cl : List (Str × Addr)} {x : Str} {ifs : List PySem.Expr} {fp : List Addr} {n : Nat} {P : Nat → Value → Prop} {St : Nat → Heap → Prop} {S : List (Addr × Obj) → Prop}
    {J : Nat → (Str → Option Value) → List Value → List (Addr × Obj) → Prop} {m₂ : Str → Option Value} {oC : Obj} {ys : List Value} {news : List (Addr × Obj)}
    (hgens : gens = [⟨.Name x px, iter, ifs, 0⟩, ⟨target', iter', ifs', 0⟩])
    (W : Walks prog w A I fp [I] n P St) (hIo : ∀ i h, St i h → ∃ o, h.get? I = some o)
    (hSt : ∀ i h h' o nw, St i h → h.get? I = some o → h'.get? I = some o → (∀ b o, h₀.get? b = some o → h'.get? b = some o) → News h₀ L h' nw → S nw → St i h')
    (hkind : scope.kind = .function) (hx : scope.names.lookup x = some .local) (hfp : C ∉ fp ∧ D ∉ fp) (hI₀ : h₀.get? I = none)
    (hs : ∀ v, foldedSetIterable iter' (compEnvC scope cl C env) v = pure v)
    (step : ∀ i v m₂ ys news oI oC h tk, i < n → P i v → J i m₂ ys news → NsObj oC (fun z => if z = x then some v else m₂ z) → Fr h₀ L h m → News h₀ L h ((I, oI) :: (C, oC) :: (D, lst ys) :: news) → Off3 I C D news → (I ≠ C ∧ I ≠ D ∧ C ≠ D) → S news →
      wpAny (model prog w) A (tests ifs (compEnvC scope cl C env)) (fun ok s' => if ok = true then wpAny (model prog w) A (eval iter' (compEnvC scope cl C env)) (fun xv s₁ => wpAny (model prog w) A (pyIter xv) (fun it s₂ =>
        codeAny (model prog w) A (.compStart (.ListComp elt gens scope pos) 1 it (.ref D) (compEnvC scope cl C env)) (fun r s₃ => r = .ok .next ∧ Nxt s h₀ L m I oI C D S (J (i + 1)) s₃) s₂) ff s₁) ff s' else Nxt s h₀ L m I oI C D S (J (i + 1)) s') ff { s with heap := h, toks := tk })
    (done : ∀ m₂ ys news oC h tk, J n m₂ ys news → NsObj oC m₂ → Fr h₀ L h m → News h₀ L h ((C, oC) :: (D, lst ys) :: news) → Off3 I C D news → C ≠ D → S news → R (.ok .next) { s with heap := h, toks := tk })
    (hst : St 0 s.heap) (F : Fr h₀ L s.heap m) (hC : NsObj oC m₂) (N : News h₀ L s.heap ((C, oC) :: (D, lst ys) :: news)) (hIL : L ≠ I) (off : Off3 I C D news) (ne : I ≠ C ∧ I ≠ D ∧ C ≠ D) (hS : S news) (hJ : J 0 m₂ ys news) (hh : A.handled = none) :
    codeAny (model prog w) A (.compLoop (.ListComp elt gens scope pos) 0 (.ref I) (.ref D) (compEnvC scope cl C env)) R s := by
  have loop : ∀ s₃ : Shared, s₃ = s → codeAny (model prog w) A (.compLoop (.ListComp elt gens scope pos) 0 (.ref I) (.ref D) (compEnvC scope cl C env)) R s₃ := by
    rintro s₃ rfl
    refine codeAny_loop rfl
      (LcInv s₃ h₀ L m I C D n St S J) (fun k s' hI => ?_) (n + 1)
      ⟨s₃.heap, _, 0, ys, m₂, oC, news, rfl, Nat.zero_le _, rfl, hst, F, hC, N, off, hS, hJ⟩
    refine hideP fun G hG => ?_
    obtain ⟨h', tk, i, ys, m', oC', news', rfl, hi, rfl, hst', F', hC', N', off', hS', hJ'⟩ := hI
    refine hG ?_
    clear hG G
    show wpAny _ A ((compTurn (.ListComp elt gens scope pos) 0 (.ref I) (.ref D) (compEnvC scope cl C env)).onRaise (fun x => do noteFrame x (compEnvC scope cl C env); theTreesLotGoes x)) _ _ _
    refine wpAny_noted ?_
    have he : compTurn (.ListComp elt gens scope pos) 0 (.ref I) (.ref D) (compEnvC scope cl C env) = outerTurn (.Name x px) iter ifs iter' (.ListComp elt gens scope pos) (.ref I) (.ref D) (compEnvC scope cl C env) := by subst hgens; rfl
    rw [he]
    have hCL : C ≠ L := (N' (C, oC') List.mem_cons_self).2.1
    have hC₀ : h₀.get? C = none := (N' (C, oC') List.mem_cons_self).2.2
    refine wpAny_bind (wpAny_standAt (wpAny_bind ?_))
    by_cases hlt : i < n
    · refine W.item i _ _ _ hlt hst' fun v h₂ tk₂ hPv hst₂ hk₂ => ?_
      refine wpAny_bind (wpAny_of_eq (a := ()) (by rfl) ?_)
      refine wpAny_bind (wpAny_assign_Name (wpAny_storeName_local (lookup_relabel_local hx) ((hC'.ns (N' (C, oC') List.mem_cons_self).1).at' fun o e => hk₂ _ o (by simpa using Ne.symm ne.1) e) (fun h₃ hn₃ hs₃ => ?_) (by simp [compEnvC, relabel, hkind])))
      have hst₃ : St (i + 1) h₃ := W.frame _ _ _ hst₂ fun b hb o e => hs₃.extBut b o (fun q => hfp.1 (by have q' : b = C := q; rw [← q']; exact hb)) e
      obtain ⟨oI, heI⟩ := hIo _ _ hst₃
      obtain ⟨oC, heC, hoC⟩ := ns_obj hn₃
      have F₃ : Fr h₀ L h₃ m := (fr_but F' hk₂ hIL hI₀).change hs₃ hCL hC₀
      have off3 := off'.mem
      have N₃ : News h₀ L h₃ ((I, oI) :: (C, oC) :: (D, lst ys) :: news') := fun p hp => by
        rcases List.mem_cons.mp hp with rfl | hp
        · exact ⟨heI, Ne.symm hIL, hI₀⟩
        · rcases List.mem_cons.mp hp with rfl | hp
          · exact ⟨heC, hCL, hC₀⟩
          · have z := N' p (List.mem_cons_of_mem _ hp)
            have hne : p.1 ≠ I ∧ p.1 ≠ C := by
              rcases List.mem_cons.mp hp with rfl | hp
              · exact ⟨Ne.symm ne.2.1, Ne.symm ne.2.2⟩
              · exact ⟨(off3 p hp).1, (off3 p hp).2.1⟩
            exact ⟨hs₃.extBut _ _ hne.2 (hk₂ _ _ (by simpa using hne.1) z.1), z.2⟩
      have fin : ∀ s', Nxt s₃ h₀ L m I oI C D S (J (i + 1)) s' → ∃ k', k' < n + 1 - i ∧ LcInv s₃ h₀ L m I C D n St S J k' s' := by
        rintro s' ⟨h₅, tk₅, m₅, oC₅, ys₅, news₅, rfl, F₅, N₅, hC₅, off₅, hS₅, hJ₅⟩
        have zI := (N₅ (I, oI) List.mem_cons_self).1
        have N₅' : News h₀ L h₅ news₅ := fun p hp => N₅ p (List.mem_cons_of_mem _ (List.mem_cons_of_mem _ (List.mem_cons_of_mem _ hp)))
        exact ⟨n + 1 - (i + 1), by omega, h₅, tk₅, i + 1, ys₅, m₅, oC₅, news₅, rfl, hlt, rfl, hSt _ _ _ _ _ hst₃ heI zI F₅.keep N₅' hS₅, F₅, hC₅, fun p hp => N₅ p (List.mem_cons_of_mem _ hp), off₅, hS₅, hJ₅⟩
      refine wpAny_bind (wpAny_mono (step i v m' ys news' oI oC h₃ _ hlt hPv hJ' (by simpa using hoC) F₃ N₃ off' ne hS') (fun ok s₄ h₄ => ?_) fun _ _ e => e.elim)
      cases ok with
      | false =>
        simp only [Bool.false_eq_true, if_false] at h₄ ⊢
        exact wpAny_pure ⟨rfl, fin _ h₄⟩
      | true =>
        simp only [if_true] at h₄ ⊢
        refine wpAny_bind (wpAny_mono h₄ (fun xv s₅ h₅ => ?_) fun _ _ e => e.elim)
        refine wpAny_bind (wpAny_standAt (wpAny_bind (wpAny_of_eq (hs xv) (wpAny_bind (wpAny_holding (wpAny_mono h₅ (fun it s₆ h₆ => ?_) fun _ _ e => e.elim))))))
        refine wpAny_bind (wpAny_runOwn ?_)
        have hm : A.mark none = A := by cases A; rfl
        rw [hm]
        refine codeAny_mono h₆ ?_
        rintro r s₇ ⟨rfl, h₇⟩
        exact wpAny_pure ⟨rfl, fin _ h₇⟩
    · obtain rfl : i = n := Nat.le_antisymm hi (Nat.not_lt.mp hlt)
      refine W.done _ _ _ hst' fun h₂ tk₂ hk₂ => wpAny_pure ?_
      have off3 := off'.mem
      exact done _ _ _ _ h₂ tk₂ hJ' hC' (fr_but F' hk₂ hIL hI₀) (news_but N' hk₂ fun p hp => by
        rcases List.mem_cons.mp hp with rfl | hp
        · exact Ne.symm ne.1
        · rcases List.mem_cons.mp hp with rfl | hp
          · exact Ne.symm ne.2.1
          · exact (off3 p hp).1) off' ne.2.2 hS'
  exact loop s rfl
end
end Mine
end
section
open PySem PySem.W PySem.Calls PyProof.Rows PyProof.Rows.LCg
set_option maxRecDepth 100000
namespace Mine
section
variable {prog : Program} {w : World} {A : Around} {s : Shared} {h₀ : Heap} {L : Addr} {m : Str → Option Value} {env : Env} {E : Value → Shared → Prop}
structure Src (prog : Program) (w : World) (A : Around) (h₀ : Heap) (L : Addr) (I : Addr) (fp : List Addr) (n : Nat) (P : Nat → Value → Prop) (St : Nat → Heap → Prop) (S : List (Addr × Obj) → Prop) (h : Heap) : Prop where
  W : Walks prog w A I fp [I] n P St
  io : ∀ i h, St i h → ∃ o, h.get? I = some o
  keep : ∀ i h h' o nw, St i h → h.get? I = some o → h'.get? I = some o → (∀ b o, h₀.get? b = some o → h'.get? b = some o) → News h₀ L h' nw → S nw → St i h'
  st : St 0 h
  fp : ∀ b ∈ fp, b < h.objs.size
  base : h₀.get? I = none
  ne : L ≠ I
theorem pushI {news : List (Addr × Obj)} {h : Heap} {o : Obj} (F : Fr h₀ L h m) (N : News h₀ L h news) : Fr h₀ L (h.push o) m ∧ News h₀ L (h.push o) news ∧ (∀ p ∈ news, p.1 ≠ h.objs.size) :=
  ⟨F.push _, N.grown fun _ _ e => Heap.get?_push_of_some _ e, fun p hp => Nat.ne_of_lt (Heap.lt_size (N p hp).1)⟩
theorem it_list {ax : Addr} {its : Array Value} {news : List (Addr × Obj)} {Q : Value → Shared → Prop} (hh : A.handled = none) (F : Fr h₀ L s.heap m) (N : News h₀ L s.heap news) (S : SrcAt h₀ ax its news)
    (h : ∀ I h' St, Src prog w A h₀ L I [I, ax] its.size (fun i v => its[i]? = some v) St (SrcAt h₀ ax its) h' → Fr h₀ L h' m → News h₀ L h' news → (∀ p ∈ news, p.1 ≠ I) → Q (.ref I) { s with heap := h' }) :
    wpAny (model prog w) A (pyIter (.ref ax)) Q E s := by
  have hl := S.list F.keep N
  have hlt : ax < s.heap.objs.size := by obtain ⟨_, e, _⟩ := hl; exact Heap.lt_size e
  obtain ⟨F', N', off⟩ := pushI (o := { cls := .type "list_iterator", data := .fields #[.ref ax, .int 0 0] }) F N
  refine wpAny_pyIter_list hl (h s.heap.objs.size _ _ ⟨Walks.list hh s.heap.objs.size ax (Nat.ne_of_lt hlt) its, (fun i h st => by obtain ⟨o, e, _⟩ := st.1; exact ⟨o, e⟩), list_st, ⟨⟨_, Heap.get?_push_size _ rfl, rfl, rfl⟩, hl.push _⟩, ?_, next_is_new F, Nat.ne_of_lt F.ns.lt⟩ F' N' off)
  intro b hb
  rw [Heap.size_push]
  rcases List.mem_cons.mp hb with rfl | hb
  · exact Nat.lt_succ_self _
  · rw [List.mem_singleton.mp hb]; exact Nat.lt_succ_of_lt hlt
theorem it_range {r : Addr} {a b : Int} {t u v : Tok} {n : Nat} {news : List (Addr × Obj)} {Q : Value → Shared → Prop} (hh : A.handled = none) (F : Fr h₀ L s.heap m) (N : News h₀ L s.heap news)
    (hr : IsRange s.heap r a b 1 t u v) (hsm : Builtin.Range.small a b 1 = true) (hn : Builtin.Range.rangeSize a b 1 = ((n : Nat) : Int))
    (h : ∀ I h' St, Src prog w A h₀ L I [I] n (fun i v => ∃ t, v = .int (a + (i : Int)) t) St (fun _ => True) h' → Fr h₀ L h' m → News h₀ L h' news → (∀ p ∈ news, p.1 ≠ I) → Q (.ref I) { s with heap := h' }) :
    wpAny (model prog w) A (pyIter (.ref r)) Q E s := by
  refine wpAny_pyIter_range hr hsm ?_
  refine h s.heap.objs.size _ _ ⟨range_walks hh a n, fun i h st => ⟨_, st⟩, range_st, (by show IsRangeIter _ _ _ _ _; rw [hn]; simpa using Heap.get?_push_size _ rfl), ?_, next_is_new F, Nat.ne_of_lt F.ns.lt⟩ (F.keeps fun _ _ e => Heap.get?_push_of_some _ e) (N.grown fun _ _ e => Heap.get?_push_of_some _ e) fun p hp => Nat.ne_of_lt (Heap.lt_size (N p hp).1)
  intro b hb
  rw [List.mem_singleton.mp hb]
  show s.heap.objs.size < (s.heap.push _).objs.size
  rw [Heap.size_push]; exact Nat.lt_succ_self _
theorem it_bytes {b : Array UInt8} {t : Tok} {news : List (Addr × Obj)} {Q : Value → Shared → Prop} (hh : A.handled = none) (F : Fr h₀ L s.heap m) (N : News h₀ L s.heap news)
    (h : ∀ I h' St, Src prog w A h₀ L I [I] b.size (fun i v => ∃ c u, b[i]? = some c ∧ v = .int (c.toNat : Int) u) St (fun _ => True) h' → Fr h₀ L h' m → News h₀ L h' news → (∀ p ∈ news, p.1 ≠ I) → Q (.ref I) { s with heap := h' }) :
    wpAny (model prog w) A (pyIter (.bytes b t)) Q E s := by
  refine KBw.pyIter_bytes ?_
  refine h s.heap.objs.size _ _ ⟨KBw.walks hh s.heap.objs.size b t, (fun i h st => by obtain ⟨o, e, _⟩ := st; exact ⟨o, e⟩), (fun i h h' o nw st e e' _ _ _ => by obtain ⟨o', q, r⟩ := st; rw [e] at q; cases q; exact ⟨o, e', r⟩), ⟨_, Heap.get?_push_size _ rfl, rfl, rfl⟩, ?_, next_is_new F, Nat.ne_of_lt F.ns.lt⟩ (F.keeps fun _ _ e => Heap.get?_push_of_some _ e) (N.grown fun _ _ e => Heap.get?_push_of_some _ e) fun p hp => Nat.ne_of_lt (Heap.lt_size (N p hp).1)
  intro b hb
  rw [List.mem_singleton.mp hb]
  show s.heap.objs.size < (s.heap.push _).objs.size
  rw [Heap.size_push]; exact Nat.lt_succ_self _
theorem it_str {x : Str} {t : Tok} {news : List (Addr × Obj)} {Q : Value → Shared → Prop} (hh : A.handled = none) (F : Fr h₀ L s.heap m) (N : News h₀ L s.heap news)
    (h : ∀ I h' St, Src prog w A h₀ L I [I] x.cps.size (SignAt x) St (fun _ => True) h' → Fr h₀ L h' m → News h₀ L h' news → (∀ p ∈ news, p.1 ≠ I) → Q (.ref I) { s with heap := h' }) :
    wpAny (model prog w) A (pyIter (.str x t)) Q E s := by
  have fin : ∀ o : Obj, ∀ b ∈ [s.heap.objs.size], b < (s.heap.push o).objs.size := fun o b hb => by
    rw [List.mem_singleton.mp hb, Heap.size_push]; exact Nat.lt_succ_self _
  cases ha : x.cps.all (· < 128)
  · refine wpAny_pyIter_wide ha ?_
    exact h s.heap.objs.size _ _ ⟨Walks.strWide hh s.heap.objs.size x t, (fun i h st => by obtain ⟨o, e, _⟩ := st; exact ⟨o, e⟩), (fun i h h' o nw st e e' _ _ _ => by obtain ⟨o', q, r⟩ := st; rw [e] at q; cases q; exact ⟨o, e', r⟩), ⟨_, Heap.get?_push_size _ rfl, rfl, rfl⟩, fin _, next_is_new F, Nat.ne_of_lt F.ns.lt⟩ (F.keeps fun _ _ e => Heap.get?_push_of_some _ e) (N.grown fun _ _ e => Heap.get?_push_of_some _ e) fun p hp => Nat.ne_of_lt (Heap.lt_size (N p hp).1)
  · refine wpAny_pyIter_ascii ha ?_
    exact h s.heap.objs.size _ _ ⟨Walks.strAscii hh s.heap.objs.size x t, (fun i h st => by obtain ⟨o, e, _⟩ := st; exact ⟨o, e⟩), (fun i h h' o nw st e e' _ _ _ => by obtain ⟨o', q, r⟩ := st; rw [e] at q; cases q; exact ⟨o, e', r⟩), ⟨_, Heap.get?_push_size _ rfl, rfl, rfl⟩, fin _, next_is_new F, Nat.ne_of_lt F.ns.lt⟩ (F.keeps fun _ _ e => Heap.get?_push_of_some _ e) (N.grown fun _ _ e => Heap.get?_push_of_some _ e) fun p hp => Nat.ne_of_lt (Heap.lt_size (N p hp).1)
noncomputable def TupAt (h₀ : Heap) (ax : Addr) (its : Array Value) (news : List (Addr × Obj)) : Prop := h₀.IsTuple ax its ∨ ∃ o, (ax, o) ∈ news ∧ o.cls = .type "tuple" ∧ ∃ n, o.data = .seq its n
theorem TupAt.tup {h : Heap} {ax : Addr} {its : Array Value} {news : List (Addr × Obj)} (x : TupAt h₀ ax its news) (k : ∀ b o, h₀.get? b = some o → h.get? b = some o) (N : News h₀ L h news) : h.IsTuple ax its := by
  rcases x with ⟨o, e, r⟩ | ⟨o, hm, r⟩
  · exact ⟨o, k _ _ e, r⟩
  · exact ⟨o, (N _ hm).1, r⟩
theorem it_tuple {ax : Addr} {its : Array Value} {news : List (Addr × Obj)} {Q : Value → Shared → Prop} (hh : A.handled = none) (F : Fr h₀ L s.heap m) (N : News h₀ L s.heap news) (S : TupAt h₀ ax its news)
    (h : ∀ I h' St, Src prog w A h₀ L I [I, ax] its.size (fun i v => its[i]? = some v) St (TupAt h₀ ax its) h' → Fr h₀ L h' m → News h₀ L h' news → (∀ p ∈ news, p.1 ≠ I) → Q (.ref I) { s with heap := h' }) :
    wpAny (model prog w) A (pyIter (.ref ax)) Q E s := by
  have hl := S.tup F.keep N
  have hlt : ax < s.heap.objs.size := by obtain ⟨_, e, _⟩ := hl; exact Heap.lt_size e
  obtain ⟨F', N', off⟩ := pushI (o := { cls := .type "tuple_iterator", data := .fields #[.ref ax, .int 0 0] }) F N
  refine wpAny_pyIter_tuple hl (h s.heap.objs.size _ _ ⟨Walks.tuple hh s.heap.objs.size ax (Nat.ne_of_lt hlt) its, (fun i h st => by obtain ⟨o, e, _⟩ := st.1; exact ⟨o, e⟩), (fun i h h' o nw st e e' k N S => ⟨by obtain ⟨o', q, r⟩ := st.1; rw [e] at q; cases q; exact ⟨o, e', r⟩, S.tup k N⟩), ⟨⟨_, Heap.get?_push_size _ rfl, rfl, rfl⟩, hl.push _⟩, ?_, next_is_new F, Nat.ne_of_lt F.ns.lt⟩ F' N' off)
  intro b hb
  rw [Heap.size_push]
  rcases List.mem_cons.mp hb with rfl | hb
  · exact Nat.lt_succ_self _
  · rw [List.mem_singleton.mp hb]; exact Nat.lt_succ_of_lt hlt
theorem lc_open {elt : PySem.Expr} {gens : List Comprehension} {scope : Scope} {cl : List (Str × Addr)} {pos : Pos} {it : Value} {news : List (Addr × Obj)} {RR : Value → Addr → Result → Shared → Prop}
    (hcell : ∀ y ∈ scope.names, y.2 ≠ .cell) (hkind : scope.kind = .function) (F : Fr h₀ L s.heap m) (N : News h₀ L s.heap news)
    (h : ∀ D C oC h', Fr h₀ L h' m → News h₀ L h' ((C, oC) :: (D, lst []) :: news) → NsObj oC (fun _ => none) → C ≠ D → s.heap.objs.size ≤ C → s.heap.objs.size ≤ D → (∀ b o, s.heap.get? b = some o → h'.get? b = some o) →
      codeAny (model prog w) A (.compStart (.ListComp elt gens scope pos) 0 it (.ref D) (compEnvC scope cl C env)) (RR (.ref D) C) { s with heap := h' }) :
    wpAny (model prog w) A (newList []) (fun acc s₃ => wpAny (model prog w) A (newFunctionEnv scope env.globals cl [] env.qual none .none (some env)) (fun cenv s₄ =>
      codeAny (model prog w) A (.compStart (.ListComp elt gens scope pos) 0 it acc { cenv with scope := relabel scope env }) (RR acc cenv.locals) s₄) E s₃) E s := by
  refine wpAny_newObj_type (wpAny_newFunctionEnv hcell (by intro y hy; simp at hy) (fun h₁ hns₁ hsb₁ => ?_) hkind)
  dsimp only at hns₁ hsb₁ ⊢
  generalize hH2 : s.heap.push { cls := .type "list", dict := none, data := .seq ([] : List Value).toArray } = H2 at hns₁ hsb₁ ⊢
  have hC : H2.objs.size = s.heap.objs.size + 1 := by rw [← hH2, Heap.size_push]
  have hDC : s.heap.objs.size ≠ H2.objs.size := by rw [hC]; exact Nat.ne_of_lt (Nat.lt_succ_self _)
  have below : ∀ b, b < s.heap.objs.size → b ≠ H2.objs.size ∧ b ≠ s.heap.objs.size := fun b hb => ⟨by rw [hC]; exact Nat.ne_of_lt (Nat.lt_succ_of_lt hb), Nat.ne_of_lt hb⟩
  have old : ∀ b o, s.heap.get? b = some o → h₁.get? b = some o := fun b o e => hsb₁.extBut b o (below b (Heap.lt_size e)).1 (Heap.get?_push_of_some _ (hH2 ▸ Heap.get?_push_of_some _ e))
  have hacc : h₁.get? s.heap.objs.size = some (lst []) := hsb₁.extBut _ _ hDC (Heap.get?_push_of_some _ (hH2 ▸ Heap.get?_push_size _ rfl))
  have fresh : ∀ a, s.heap.objs.size ≤ a → s.heap.get? a = none := fun a ha => by
    cases e : s.heap.get? a with
    | none => rfl
    | some o' => exact absurd (Heap.lt_size e) (Nat.not_lt.mpr ha)
  have fresh₀ : ∀ a, s.heap.objs.size ≤ a → h₀.get? a = none := fun a ha => by
    cases e : h₀.get? a with
    | none => rfl
    | some o' => have := F.keep a o' e; rw [fresh a ha] at this; cases this
  have hLlt : L < s.heap.objs.size := F.ns.lt
  obtain ⟨oC, heC, hoC⟩ := ns_obj hns₁
  refine h s.heap.objs.size H2.objs.size oC h₁ (F.keeps old) (fun p hp => ?_) hoC (Ne.symm hDC) (by rw [hC]; exact Nat.le_succ _) (Nat.le_refl _) old
  rcases List.mem_cons.mp hp with rfl | hp
  · exact ⟨heC, Ne.symm (below L hLlt).1, fresh₀ _ (by rw [hC]; exact Nat.le_succ _)⟩
  · rcases List.mem_cons.mp hp with rfl | hp
    · exact ⟨hacc, Ne.symm (below L hLlt).2, fresh₀ _ (Nat.le_refl _)⟩
    · exact ⟨old _ _ (N p hp).1, (N p hp).2⟩
structure Turns (prog : Program) (w : World) (A : Around) (h₀ : Heap) (L : Addr) (m : Str → Option Value) (env : Env) (elt : PySem.Expr) (ifs : List PySem.Expr) (scope : Scope) (cl : List (Str × Addr)) (x : Str) (s : Shared) (I : Addr) (n : Nat) (P : Nat → Value → Prop) (S : List (Addr × Obj) → Prop)
    (J : Nat → (Str → Option Value) → List Value → List (Addr × Obj) → Prop) : Prop where
  len : ∀ i m₂ ys news, J i m₂ ys news → ys.length ≤ sizeLine
  step : ∀ C D i v m₂ ys news oI oC h tk, i < n → P i v → J i m₂ ys news → NsObj oC (fun z => if z = x then some v else m₂ z) → Fr h₀ L h m → News h₀ L h ((I, oI) :: (C, oC) :: (D, lst ys) :: news) → Off3 I C D news → (I ≠ C ∧ I ≠ D ∧ C ≠ D) → S news →
      wpAny (model prog w) A (tests ifs (compEnvC scope cl C env)) (fun ok s' => if ok = true then wpAny (model prog w) A (eval elt (compEnvC scope cl C env)) (fun y => Nxt s h₀ L m I oI C D S fun m₂' ys' news' => ys' = ys ∧ J (i + 1) m₂' (ys ++ [y]) news') ff s' else Nxt s h₀ L m I oI C D S (J (i + 1)) s') ff { s with heap := h, toks := tk }
inductive LcGo (prog : Program) (w : World) (A : Around) (h₀ : Heap) (L : Addr) (m : Str → Option Value) (env : Env) (elt : PySem.Expr) (ifs : List PySem.Expr) (scope : Scope) (cl : List (Str × Addr)) (x : Str) (fin : Shared → List Value → List (Addr × Obj) → Prop) (it : Value) (s : Shared) : Prop
  | mk (I : Addr) (fp : List Addr) (n : Nat) (P : Nat → Value → Prop) (St : Nat → Heap → Prop) (S : List (Addr × Obj) → Prop) (news : List (Addr × Obj)) (J : Nat → (Str → Option Value) → List Value → List (Addr × Obj) → Prop)
    (e : it = .ref I) (hh : A.handled = none) (src : Src prog w A h₀ L I fp n P St S s.heap) (F : Fr h₀ L s.heap m) (N : News h₀ L s.heap news) (off : ∀ p ∈ news, p.1 ≠ I) (hS : S news) (hJ : J 0 (fun _ => none) [] news)
    (go : Turns prog w A h₀ L m env elt ifs scope cl x s I n P S J ∧ ∀ m₂ ys news', J n m₂ ys news' → S news' → fin s ys news') : LcGo prog w A h₀ L m env elt ifs scope cl x fin it s
noncomputable def finE (h₀ : Heap) (L : Addr) (m : Str → Option Value) (Q : Value → Shared → Prop) (s : Shared) (ys : List Value) (news : List (Addr × Obj)) : Prop :=
  ∀ D h tk, Fr h₀ L h m → News h₀ L h ((D, lst ys) :: news) → (∀ p ∈ news, p.1 ≠ D) → Q (.ref D) { s with heap := h, toks := tk }
noncomputable def finA (h₀ : Heap) (L : Addr) (m : Str → Option Value) (y : Str) (Q : Flow → Shared → Prop) (s : Shared) (ys : List Value) (news : List (Addr × Obj)) : Prop :=
  ∀ D h tk, Fr h₀ L h (fun z => if z = y then some (.ref D) else m z) → News h₀ L h ((D, lst ys) :: news) → (∀ p ∈ news, p.1 ≠ D) → Q .next { s with heap := h, toks := tk }
theorem lc_run {elt iter : PySem.Expr} {ifs : List PySem.Expr} {x : Str} {px : Pos} {scope : Scope} {cl : List (Str × Addr)} {pos : Pos} {it : Value} {fin : Shared → List Value → List (Addr × Obj) → Prop} {RR : Value → Addr → Result → Shared → Prop}
    (hcell : ∀ y ∈ scope.names, y.2 ≠ .cell) (hkind : scope.kind = .function) (hx : scope.names.lookup x = some .local)
    (g : LcGo prog w A h₀ L m env elt ifs scope cl x fin it s)
    (hRR : ∀ D C oC h tk m₂ ys news, fin s ys news → Fr h₀ L h m → News h₀ L h ((C, oC) :: (D, lst ys) :: news) → NsObj oC m₂ → C ≠ D → (∀ p ∈ news, p.1 ≠ C ∧ p.1 ≠ D) → RR (.ref D) C (.ok .next) { s with heap := h, toks := tk }) :
    wpAny (model prog w) A (newList []) (fun acc s₃ => wpAny (model prog w) A (newFunctionEnv scope env.globals cl [] env.qual none .none (some env)) (fun cenv s₄ =>
      codeAny (model prog w) A (.compStart (.ListComp elt [⟨.Name x px, iter, ifs, 0⟩] scope pos) 0 it acc { cenv with scope := relabel scope env }) (RR acc cenv.locals) s₄) E s₃) E s := by
  obtain ⟨I, fp, n, P, St, S, news, J, rfl, hh, src, F, N, offI, hS, hJ, go⟩ := g
  refine lc_open hcell hkind F N fun D C oC h' F' N' hC hCD hCn hDn old => ?_
  obtain ⟨T, fin'⟩ := go
  have hI : I < s.heap.objs.size := src.fp I (src.W.sub I (List.mem_singleton.mpr rfl))
  have hst : St 0 h' := src.W.frame _ _ _ src.st fun b _ o e => old b o e
  have offN : ∀ p ∈ news, p.1 ≠ I ∧ p.1 ≠ C ∧ p.1 ≠ D := fun p hp => by
    have lt := Heap.lt_size (N p hp).1
    exact ⟨offI p hp, fun e => absurd lt (by rw [e]; exact Nat.not_lt.mpr hCn), fun e => absurd lt (by rw [e]; exact Nat.not_lt.mpr hDn)⟩
  have ne : I ≠ C ∧ I ≠ D ∧ C ≠ D := ⟨fun e => absurd hI (by rw [e]; exact Nat.not_lt.mpr hCn), fun e => absurd hI (by rw [e]; exact Nat.not_lt.mpr hDn), hCD⟩
  have hfp : C ∉ fp ∧ D ∉ fp := ⟨fun hm => absurd (src.fp _ hm) (Nat.not_lt.mpr hCn), fun hm => absurd (src.fp _ hm) (Nat.not_lt.mpr hDn)⟩
  have loop := lc_last (prog := prog) (w := w) (A := A) (s := { s with heap := h' }) (R := RR (.ref D) C) (elt := elt) (iter := iter) (gens := [⟨.Name x px, iter, ifs, 0⟩]) (scope := scope) (pos := pos) (px := px) (d := 0) (I := I) (C := C) (D := D) (cl := cl) (x := x) (ifs := ifs) (env := env)
    (compTurn_last _ _ _ _ _ _ _ _ _) src.W src.io src.keep hkind hx hfp src.base T.len (fun i v m₂ ys news oI oC h tk hi hP hJ hC F N off ne hS => T.step C D i v m₂ ys news oI oC h tk hi hP hJ hC F N off ne hS)
    (fun m₂ ys news oC h tk hJ hC F N off hcd hS => hRR D C oC h tk m₂ ys news (fin' _ _ _ hJ hS) F N hC hcd fun p hp => (off.mem p hp).2) hst F' hC N' src.ne (Off3.of offN) ne hS hJ
  exact codeAny_compStart_list loop (src.W.self 0 _ _ _ hst loop)
theorem lcE {elt iter : PySem.Expr} {ifs : List PySem.Expr} {x : Str} {px : Pos} {scope : Scope} {cl : List (Str × Addr)} {pos : Pos} {Q : Value → Shared → Prop}
    (hclos : closureFor scope env = pure cl) (hcell : ∀ y ∈ scope.names, y.2 ≠ .cell) (hkind : scope.kind = .function)
    (hnames : ∀ y ∈ scope.names, y.2 = .local → scope.names.lookup y.1 = some .local) (hx : scope.names.lookup x = some .local)
    (hs : ∀ x, foldedSetIterable iter env x = pure x)
    (h : wpAny (model prog w) A (eval iter env) (fun xv s₁ => wpAny (model prog w) A (pyIter xv) (LcGo prog w A h₀ L m env elt ifs scope cl x (finE h₀ L m Q)) E s₁) E s) :
    wpAny (model prog w) A (eval (.ListComp elt [⟨.Name x px, iter, ifs, 0⟩] scope pos) env) Q E s := by
  rw [eval_ListComp]
  refine wpAny_comprehension_free (use := none) rfl hs hclos hkind hnames (wpAny_mono h (fun xv s₁ h₁ => wpAny_mono h₁ (fun it s₂ h₂ => lc_run hcell hkind hx h₂ ?_) fun _ _ e => e) fun _ _ e => e)
  intro D C oC h tk m₂ ys news fin F N hC hCD off
  refine ⟨m₂, hC.ns (N (C, oC) List.mem_cons_self).1, fun h'' hs'' => fin D h'' tk (F.change hs'' (N (C, oC) List.mem_cons_self).2.1 (N (C, oC) List.mem_cons_self).2.2) (fun p hp => ?_) fun p hp => (off p hp).2⟩
  have z := N p (List.mem_cons_of_mem _ hp)
  refine ⟨hs''.extBut _ _ ?_ z.1, z.2⟩
  rcases List.mem_cons.mp hp with rfl | hp
  · exact Ne.symm hCD
  · exact (off p hp).1
theorem lcA {elt iter : PySem.Expr} {ifs : List PySem.Expr} {x y : Str} {px py : Pos} {scope : Scope} {cl : List (Str × Addr)} {pos spos : Pos} {Q : Flow → Shared → Prop} (hLe : env.locals = L)
    (hsw : swapsWith (.ListComp elt [⟨.Name x px, iter, ifs, 0⟩] scope pos) (some (.Name y py)) spos.line env = pure true)
    (hclos : closureFor scope env = pure cl) (hcell : ∀ y ∈ scope.names, y.2 ≠ .cell) (hkind : scope.kind = .function)
    (hnames : ∀ y ∈ scope.names, y.2 = .local → scope.names.lookup y.1 = some .local) (hx : scope.names.lookup x = some .local)
    (hy : env.kindOf y = some .local) (hp : (env.scope.kind == .class || (env.scope.kind == .module && env.locals != env.globals)) = false)
    (hs : ∀ x, foldedSetIterable iter env x = pure x)
    (h : wpAny (model prog w) A (eval iter env) (fun xv s₁ => wpAny (model prog w) A (pyIter xv) (LcGo prog w A h₀ L m env elt ifs scope cl x (finA h₀ L m y Q)) E s₁) E s) :
    wpAny (model prog w) A (exec (.Assign [.Name y py] (.ListComp elt [⟨.Name x px, iter, ifs, 0⟩] scope pos) spos) env) Q E s := by
  subst hLe
  rw [exec_Assign_Name_used _ _ _ _ hsw]
  refine wpAny_bind (wpAny_standAt (wpAny_bind ?_))
  show wpAny _ A (do let _ ← comprehension (.ListComp elt [⟨.Name x px, iter, ifs, 0⟩] scope pos) scope env _ (newList []) false (eval iter env) (some (assign (.Name y py) env))) _ _ s
  refine wpAny_bind (wpAny_mono (wpAny_comprehension_free (use := some (assign (.Name y py) env)) (Q := fun _ s' => Q .next s') rfl hs hclos hkind hnames
    (wpAny_mono h (fun xv s₁ h₁ => wpAny_mono h₁ (fun it s₂ h₂ => lc_run hcell hkind hx h₂ ?_) fun _ _ e => e) fun _ _ e => e)) (fun _ s' hq => wpAny_pure (wpAny_pure hq)) fun _ _ e => e)
  intro D C oC h tk m₂ ys news fin F N hC hCD off
  show wpAny _ A (assign (.Name y py) env (.ref D)) _ _ _
  refine wpAny_assign_Name (wpAny_storeName_local hy F.ns (fun h₂ hn₂ hs₂ => ?_) hp)
  have hCL := (N (C, oC) List.mem_cons_self).2.1
  have hC₀ := (N (C, oC) List.mem_cons_self).2.2
  have hL₀ : h₀.get? env.locals = none := Heap.get?_none_of_le F.above
  have F₂ : Fr h₀ env.locals h₂ (fun z => if z = y then some (.ref D) else m z) := ⟨hn₂, fun b o e => hs₂.extBut b o (fun q => by rw [q, hL₀] at e; cases e) (F.keep b o e), F.above⟩
  refine ⟨m₂, (hC.ns (N (C, oC) List.mem_cons_self).1).sameBut hs₂ hCL, fun h'' hs'' => fin D h'' _ (F₂.change hs'' hCL hC₀) (fun p hp => ?_) fun p hp => (off p hp).2⟩
  have z := N p (List.mem_cons_of_mem _ hp)
  refine ⟨hs''.extBut _ _ ?_ (hs₂.extBut _ _ z.2.1 z.1), z.2⟩
  rcases List.mem_cons.mp hp with rfl | hp
  · exact Ne.symm hCD
  · exact (off p hp).1
end
end Mine
end
section
open PySem PySem.W PySem.Calls PyProof.Rows PyProof.Rows.LCg
set_option maxRecDepth 100000
namespace Mine
noncomputable def nt : Value → Value
  | .int i _ => .int i 0
  | .float b _ => .float b 0
  | .str x _ => .str x 0
  | .bytes b _ => .bytes b 0
  | v => v
theorem nt_int {v : Value} {i : Int} (h : nt v = .int i 0) : ∃ t, v = .int i t := by
  cases v with
  | int j t => exact ⟨t, by simp only [nt, Value.int.injEq] at h; rw [h.1]⟩
  | _ => simp [nt] at h
theorem nt_str {v : Value} {x : Str} (h : nt v = .str x 0) : ∃ t, v = .str x t := by
  cases v with
  | str j t => exact ⟨t, by simp only [nt, Value.str.injEq] at h; rw [h.1]⟩
  | _ => simp [nt] at h
theorem nt_ref {v : Value} {a : Addr} (h : nt v = .ref a) : v = .ref a := by
  cases v with
  | ref b => simpa [nt] using h
  | _ => simp [nt] at h
theorem nts3 {ys : List Value} {a b c : Value} (h : ys.map nt = [a, b, c]) : ∃ x y z, ys = [x, y, z] ∧ nt x = a ∧ nt y = b ∧ nt z = c := by
  obtain ⟨x, r1, rfl, h1, e1⟩ := List.map_eq_cons_iff.mp h
  obtain ⟨y, r2, rfl, h2, e2⟩ := List.map_eq_cons_iff.mp e1
  obtain ⟨z, r3, rfl, h3, e3⟩ := List.map_eq_cons_iff.mp e2
  obtain rfl := List.map_eq_nil_iff.mp e3
  exact ⟨x, y, z, rfl, h1, h2, h3⟩
theorem nts5 {ys : List Value} {a b c d e : Value} (h : ys.map nt = [a, b, c, d, e]) : ∃ x y z u v, ys = [x, y, z, u, v] ∧ nt x = a ∧ nt y = b ∧ nt z = c ∧ nt u = d ∧ nt v = e := by
  obtain ⟨x, r1, rfl, h1, e1⟩ := List.map_eq_cons_iff.mp h
  obtain ⟨y, r2, rfl, h2, e2⟩ := List.map_eq_cons_iff.mp e1
  obtain ⟨z, u, v, rfl, h3, h4, h5⟩ := nts3 e2
  exact ⟨x, y, z, u, v, rfl, h1, h2, h3, h4, h5⟩
theorem strs3 {ys : List Value} {a b c : Str} (h : ys.map nt = [.str a 0, .str b 0, .str c 0]) : ∃ t u v, ys = [.str a t, .str b u, .str c v] := by
  obtain ⟨x, y, z, rfl, h1, h2, h3⟩ := nts3 h
  obtain ⟨t, rfl⟩ := nt_str h1
  obtain ⟨u, rfl⟩ := nt_str h2
  obtain ⟨v, rfl⟩ := nt_str h3
  exact ⟨t, u, v, rfl⟩
theorem ints3 {ys : List Value} {a b c : Int} (h : ys.map nt = [.int a 0, .int b 0, .int c 0]) : ∃ t u v, ys = [.int a t, .int b u, .int c v] := by
  obtain ⟨x, y, z, rfl, h1, h2, h3⟩ := nts3 h
  obtain ⟨t, rfl⟩ := nt_int h1
  obtain ⟨u, rfl⟩ := nt_int h2
  obtain ⟨v, rfl⟩ := nt_int h3
  exact ⟨t, u, v, rfl⟩
section
variable {prog : Program} {w : World} {A : Around} {s : Shared} {h₀ : Heap} {L : Addr} {m : Str → Option Value} {env : Env} {E : Value → Shared → Prop}
noncomputable def MapEnd (out : List Value) (i : Nat) (s : Shared) (h₀ : Heap) (L : Addr) (m : Str → Option Value) (led : List (Addr × Obj)) (y : Value) (s' : Shared) : Prop :=
  some (nt y) = out[i]? ∧ ∃ h' tk', s' = { s with heap := h', toks := tk' } ∧ Fr h₀ L h' m ∧ News h₀ L h' led
theorem MapEnd.intro {out : List Value} {i : Nat} {s : Shared} {led all : List (Addr × Obj)} {y : Value} {h' : Heap} {tk' : Nat} (F : Fr h₀ L h' m) (N : News h₀ L h' all) (hs : ∀ p ∈ led, p ∈ all) (hv : some (nt y) = out[i]?) :
    MapEnd out i s h₀ L m led y { s with heap := h', toks := tk' } := ⟨hv, h', tk', rfl, F, fun p hp => N p (hs p hp)⟩
theorem lc_map {elt : PySem.Expr} {scope : Scope} {cl : List (Str × Addr)} {x : Str} {fin : Shared → List Value → List (Addr × Obj) → Prop} {I : Addr} {fp : List Addr} {n : Nat} {P : Nat → Value → Prop} {St : Nat → Heap → Prop} {S : List (Addr × Obj) → Prop} {news : List (Addr × Obj)}
    (out : List Value) (hout : out.length = n) (hn : n ≤ 1000) (hh : A.handled = none) (src : Src prog w A h₀ L I fp n P St S s.heap) (F : Fr h₀ L s.heap m) (N : News h₀ L s.heap news) (offI : ∀ p ∈ news, p.1 ≠ I) (hS : S news)
    (step : ∀ C D i v ys oI oC h tk, i < n → P i v → (∃ u : Str → Option Value, NsObj oC u ∧ u x = some v) → Fr h₀ L h m → News h₀ L h ((I, oI) :: (C, oC) :: (D, lst ys) :: news) →
      wpAny (model prog w) A (eval elt (compEnvC scope cl C env)) (MapEnd out i s h₀ L m ((I, oI) :: (C, oC) :: (D, lst ys) :: news)) ff { s with heap := h, toks := tk })
    (hfin : ∀ ys, ys.map nt = out → fin s ys news) :
    LcGo prog w A h₀ L m env elt [] scope cl x fin (.ref I) s := by
  refine ⟨I, fp, n, P, St, S, news, fun i _ ys nw => nw = news ∧ ys.map nt = out.take i, rfl, hh, src, F, N, offI, hS, ⟨rfl, by simp⟩, ?_⟩
  refine ⟨⟨?_, ?_⟩, ?_⟩
  · rintro i m₂ ys nw ⟨_, h⟩
    have := congrArg List.length h
    rw [List.length_map, List.length_take] at this
    rw [this, sizeLine_eq]; omega
  · rintro C D i v m₂ ys nw oI oC h tk hi hP ⟨rfl, hys⟩ hC F' N' off ne hS'
    refine wpAny_tests_nil ?_
    simp only [if_true]
    refine wpAny_mono (step C D i v ys oI oC h tk hi hP ⟨_, hC, by simp⟩ F' N') (fun y s' hy => ?_) fun _ _ e => e
    obtain ⟨hv, h', tk', rfl, F₂, N₂⟩ := hy
    refine ⟨h', tk', _, oC, ys, nw, rfl, F₂, N₂, hC, off, hS', rfl, rfl, ?_⟩
    rw [List.map_append, hys, List.take_add_one, ← hv]; rfl
  · rintro m₂ ys nw ⟨rfl, hys⟩ _
    exact hfin ys (by rw [hys, List.take_of_length_le (by omega)])
end
end Mine
namespace Mine
noncomputable def Stop (P : Prop) : Prop := P
theorem Stop.of {P : Prop} (h : Stop P) : P := h
theorem stopAt {M : Model} {A : Around} {Q E : Value → Shared → Prop} {s : Shared} {f : Addr} {args : List Value} (l : List Nat) (_ : l.contains f = true) (h : Stop (wpAny M A (call (.ref f) args) Q E s)) : wpAny M A (call (.ref f) args) Q E s := h
theorem hide {α : Type} {M : Model} {A : Around} {t : Sem α} {Q : α → Shared → Prop} {E : Value → Shared → Prop} {s : Shared} (h : ∀ R : α → Shared → Prop, (∀ a s', Q a s' → R a s') → wpAny M A t R E s) : wpAny M A t Q E s := h Q fun _ _ x => x
theorem all_cons {α : Type} {P : α → Prop} {a : α} {l : List α} (h : P a) (t : ∀ q ∈ l, P q) : ∀ q ∈ a :: l, P q := List.forall_mem_cons.mpr ⟨h, t⟩
theorem all_nil {α : Type} {P : α → Prop} : ∀ q ∈ ([] : List α), P q := fun _ h => nomatch h
noncomputable def mapOf : List (Str × Option Value) → Str → Option Value
  | [], _ => none
  | (k, v) :: r, y => if y = k then v else mapOf r y
noncomputable def setOf (k : Str) (v : Value) (l : List (Str × Option Value)) : List (Str × Option Value) := l.map fun e => if e.1 = k then (k, some v) else e
theorem mapOf_set {k : Str} {v : Value} : ∀ {l : List (Str × Option Value)}, (l.any fun e => decide (e.1 = k)) = true → ∀ y, (if y = k then some v else mapOf l y) = mapOf (setOf k v l) y
  | [], h, _ => by simp at h
  | (k', v') :: r, h, y => by
    unfold setOf
    rw [List.map_cons]
    by_cases e : k' = k
    · subst e
      rw [if_pos rfl]
      by_cases e2 : y = k'
      · simp only [mapOf, if_pos e2]
      · simp only [mapOf, if_neg e2]
        clear h
        induction r with
        | nil => rfl
        | cons x r ih =>
          obtain ⟨k2, v2⟩ := x
          rw [List.map_cons]
          by_cases e3 : k2 = k'
          · rw [if_pos e3]; simp only [mapOf, if_neg e2, if_neg (show ¬ y = k2 from fun q => e2 (q.trans e3))]; exact ih
          · rw [if_neg e3]; simp only [mapOf]; rw [ih]
    · have h' : (r.any fun e => decide (e.1 = k)) = true := by simpa [e] using h
      have ih := mapOf_set (v := v) h' y
      rw [if_neg e]
      simp only [mapOf]
      rw [show mapOf (List.map (fun e => if e.1 = k then (k, some v) else e) r) y = _ from ih.symm]
      by_cases e2 : y = k
      · rw [if_pos e2, if_pos e2, if_neg (show ¬ y = k' from fun q => e (q.symm.trans e2))]
      · rw [if_neg e2, if_neg e2]
theorem fr_set {h₀ h : Heap} {L : Addr} {k : Str} {v : Value} {l l' : List (Str × Option Value)} (F : Fr h₀ L h (fun y => if y = k then some v else mapOf l y)) (e : setOf k v l = l') (hk : (l.any fun e => decide (e.1 = k)) = true) : Fr h₀ L h (mapOf l') := by
  subst e
  rw [show mapOf (setOf k v l) = fun y => if y = k then some v else mapOf l y from funext fun y => (mapOf_set hk y).symm]; exact F
theorem fr_set2 {h₀ h : Heap} {L : Addr} {k k2 : Str} {v v2 : Value} {l l' l2 : List (Str × Option Value)} (F : Fr h₀ L h (fun y => if y = k2 then some v2 else if y = k then some v else mapOf l y)) (e : setOf k v l = l') (hk : (l.any fun e => decide (e.1 = k)) = true)
    (e2 : setOf k2 v2 l' = l2) (hk2 : (l'.any fun e => decide (e.1 = k2)) = true) : Fr h₀ L h (mapOf l2) := by
  subst e
  refine fr_set (l := setOf k v l) ?_ e2 hk2
  rw [show (fun y => if y = k2 then some v2 else mapOf (setOf k v l) y) = fun y => if y = k2 then some v2 else if y = k then some v else mapOf l y from funext fun y => by rw [← mapOf_set hk y]]; exact F
noncomputable abbrev setF (k : Str) (v : Value) (m : Str → Option Value) : Str → Option Value := fun y => if y = k then some v else m y
noncomputable def setAll : List (Str × Value) → (Str → Option Value) → Str → Option Value
  | [], m => m
  | (k, v) :: r, m => setF k v (setAll r m)
noncomputable def setsOf : List (Str × Value) → List (Str × Option Value) → List (Str × Option Value)
  | [], l => l
  | (k, v) :: r, l => setOf k v (setsOf r l)
theorem setOf_any {k k' : Str} {v : Value} {l : List (Str × Option Value)} (h : (l.any fun e => decide (e.1 = k')) = true) : ((setOf k v l).any fun e => decide (e.1 = k')) = true := by
  obtain ⟨e, he, hk⟩ := List.any_eq_true.mp h
  refine List.any_eq_true.mpr ⟨_, List.mem_map_of_mem he, ?_⟩
  split
  · next q => rw [← q]; exact hk
  · exact hk
theorem setsOf_any {k' : Str} {l : List (Str × Option Value)} (h : (l.any fun e => decide (e.1 = k')) = true) : ∀ {ks : List (Str × Value)}, ((setsOf ks l).any fun e => decide (e.1 = k')) = true
  | [] => h
  | _ :: _ => setOf_any (setsOf_any h)
theorem setAll_eq {l : List (Str × Option Value)} : ∀ {ks : List (Str × Value)}, (ks.all fun kv => l.any fun e => decide (e.1 = kv.1)) = true → setAll ks (mapOf l) = mapOf (setsOf ks l)
  | [], _ => rfl
  | (k, v) :: r, h => by
    rw [List.all_cons, Bool.and_eq_true] at h
    funext y
    show (if y = k then some v else setAll r (mapOf l) y) = mapOf (setOf k v (setsOf r l)) y
    rw [setAll_eq h.2]
    exact mapOf_set (setsOf_any h.1) y
theorem fr_sets {h₀ h : Heap} {L : Addr} (ks : List (Str × Value)) {l l' : List (Str × Option Value)} (F : Fr h₀ L h (setAll ks (mapOf l))) (e : setsOf ks l = l') (hk : (ks.all fun kv => l.any fun e => decide (e.1 = kv.1)) = true) : Fr h₀ L h (mapOf l') := by
  rw [← e, ← setAll_eq hk]; exact F
end Mine
end
section
open PySem PySem.W PySem.Calls PyProof.Rows PyProof.Rows.LCg
set_option maxRecDepth 100000
namespace Mine
section
variable {prog : Program} {w : World} {A : Around} {s : Shared} {h₀ : Heap} {L : Addr} {m : Str → Option Value} {env : Env} {E : Value → Shared → Prop}
noncomputable def FNxt (s : Shared) (h₀ : Heap) (L : Addr) (I : Addr) (oI : Obj) (S : List (Addr × Obj) → Prop) (K : (Str → Option Value) → List (Addr × Obj) → Prop) (s' : Shared) : Prop :=
  ∃ h' tk' m₂ news, s' = { s with heap := h', toks := tk' } ∧ Fr h₀ L h' m₂ ∧ News h₀ L h' ((I, oI) :: news) ∧ (∀ p ∈ news, p.1 ≠ I) ∧ S news ∧ K m₂ news
theorem FNxt.intro {s : Shared} {I : Addr} {oI : Obj} {S : List (Addr × Obj) → Prop} {K : (Str → Option Value) → List (Addr × Obj) → Prop} {h' : Heap} {tk' : Nat} {m₂ : Str → Option Value} {all : List (Addr × Obj)}
    (F : Fr h₀ L h' m₂) (N : News h₀ L h' all) (news : List (Addr × Obj)) (sub : ∀ p ∈ (I, oI) :: news, p ∈ all) (off : ∀ p ∈ news, p.1 ≠ I) (hS : S news) (k : K m₂ news) :
    FNxt s h₀ L I oI S K { s with heap := h', toks := tk' } := ⟨h', tk', m₂, news, rfl, F, fun p hp => N p (sub p hp), off, hS, k⟩
noncomputable def FTurn (s : Shared) (h₀ : Heap) (L : Addr) (I : Addr) (oI : Obj) (S : List (Addr × Obj) → Prop) (K : (Str → Option Value) → List (Addr × Obj) → Prop) (Q : Flow → Shared → Prop) (f : Flow) (s' : Shared) : Prop :=
  match f with
  | .ret v => Q (.ret v) s'
  | .brk => Q .next s'
  | _ => FNxt s h₀ L I oI S K s'
noncomputable abbrev FInv (s : Shared) (h₀ : Heap) (L : Addr) (I : Addr) (n : Nat) (St : Nat → Heap → Prop) (S : List (Addr × Obj) → Prop) (J : Nat → (Str → Option Value) → List (Addr × Obj) → Prop) (k : Nat) (s' : Shared) : Prop :=
  ∃ h' tk i m' news', s' = { s with heap := h', toks := tk } ∧ i ≤ n ∧ k = n + 1 - i ∧ St i h' ∧ Fr h₀ L h' m' ∧ News h₀ L h' news' ∧ (∀ p ∈ news', p.1 ≠ I) ∧ S news' ∧ J i m' news'
theorem for_src {x : Str} {px : Pos} {body : List Stmt} {I : Addr} {fp : List Addr} {n : Nat} {P : Nat → Value → Prop} {St : Nat → Heap → Prop} {S : List (Addr × Obj) → Prop} {news : List (Addr × Obj)} {Q : Flow → Shared → Prop}
    (J : Nat → (Str → Option Value) → List (Addr × Obj) → Prop)
    (hLe : env.locals = L) (hx : env.kindOf x = some .local) (hp : (env.scope.kind == .class || (env.scope.kind == .module && env.locals != env.globals)) = false)
    (src : Src prog w A h₀ L I fp n P St S s.heap) (F : Fr h₀ L s.heap m) (N : News h₀ L s.heap news) (off : ∀ p ∈ news, p.1 ≠ I) (hS : S news) (hLf : L ∉ fp) (hJ : J 0 m news)
    (step : ∀ i v m₁ news₁ oI h tk, i < n → P i v → J i m₁ news₁ → Fr h₀ L h (fun y => if y = x then some v else m₁ y) → News h₀ L h ((I, oI) :: news₁) → (∀ p ∈ news₁, p.1 ≠ I) → S news₁ →
      wpAny (model prog w) A (execs body env) (FTurn s h₀ L I oI S (J (i + 1)) Q) ff { s with heap := h, toks := tk })
    (done : ∀ m₁ news₁ h tk, J n m₁ news₁ → Fr h₀ L h m₁ → News h₀ L h news₁ → S news₁ → Q .next { s with heap := h, toks := tk }) :
    codeAny (model prog w) A (.forLoop (.Name x px) (.ref I) body [] env) (fun r s' => match r with | .ok f => Q f s' | .error e => cameBackBy (model prog w) A env E e s') s := by
  subst hLe
  refine codeAny_forLoop_any
    (FInv s h₀ env.locals I n St S J) ?_ (n + 1)
    ⟨s.heap, s.toks, 0, m, news, rfl, Nat.zero_le _, rfl, src.st, F, N, off, hS, hJ⟩
  intro k s' hI
  refine hideP fun G hG => ?_
  obtain ⟨h', tk, i, m', news', rfl, hi, rfl, hst', F', N', off', hS', hJ'⟩ := hI
  refine hG ?_
  clear hG G
  by_cases hlt : i < n
  · refine src.W.item i _ _ _ hlt hst' fun v h₁ tk₁ hP hst₁ hk₁ => ?_
    refine wpAny_of_eq (a := ()) (by rfl) ?_
    have F₁ := fr_but F' hk₁ src.ne src.base
    have N₁ := news_but N' hk₁ off'
    refine wpAny_assign_Name (wpAny_storeName_local hx F₁.ns (fun h₂ hn₂ hs₂ => ?_) hp)
    have F₂ := F₁.set hn₂ hs₂
    have N₂ := N₁.set hs₂
    have hst₂ : St (i + 1) h₂ := src.W.frame _ _ _ hst₁ fun b hb o e => hs₂.extBut b o (fun q => hLf (q ▸ hb)) e
    obtain ⟨oI, heI⟩ := src.io _ _ hst₂
    refine wpAny_mono (step i v m' news' oI h₂ _ hlt hP hJ' F₂ (fun p hp => ?_) off' hS') (fun f s₃ h₃ => ?_) fun _ _ e => e.elim
    · rcases List.mem_cons.mp hp with rfl | hp
      · exact ⟨heI, Ne.symm src.ne, src.base⟩
      · exact N₂ p hp
    · have fin : FNxt s h₀ env.locals I oI S (J (i + 1)) s₃ → ∃ k', k' < n + 1 - i ∧ FInv s h₀ env.locals I n St S J k' s₃ := by
        rintro ⟨h₄, tk₄, m₄, news₄, rfl, F₄, N₄, off₄, hS₄, hJ₄⟩
        have N₄' : News h₀ env.locals h₄ news₄ := fun p hp => N₄ p (List.mem_cons_of_mem _ hp)
        exact ⟨n + 1 - (i + 1), by omega, h₄, tk₄, i + 1, m₄, news₄, rfl, hlt, rfl, src.keep _ _ _ _ _ hst₂ heI (N₄ (I, oI) List.mem_cons_self).1 F₄.keep N₄' hS₄, F₄, N₄', off₄, hS₄, hJ₄⟩
      cases f with
      | next => exact fin h₃
      | cont => exact fin h₃
      | brk => exact h₃
      | ret v => exact h₃
  · obtain rfl : i = n := Nat.le_antisymm hi (Nat.not_lt.mp hlt)
    refine src.W.done _ _ _ hst' fun h₂ tk₂ hk₂ => wpAny_execs_nil ?_
    exact done m' news' h₂ tk₂ hJ' (fr_but F' hk₂ src.ne src.base) (news_but N' hk₂ off') hS'
theorem for_ {x : Str} {px pos : Pos} {iter : PySem.Expr} {body : List Stmt} {Q : Flow → Shared → Prop} (hs : ∀ x, foldedSetIterable iter env x = pure x)
    (h : wpAny (model prog w) A (eval iter env) (fun xv s₁ => wpAny (model prog w) A (pyIter xv) (fun it s₂ =>
      codeAny (model prog w) A (.forLoop (.Name x px) it body [] env) (fun r s' => match r with | .ok f => Q f s' | .error e => cameBackBy (model prog w) A env E e s') s₂) E s₁) E s) :
    wpAny (model prog w) A (exec (.For (.Name x px) iter body [] pos) env) Q E s := wpAny_For h hs
end
end Mine
end
section
open PySem PySem.W PySem.Calls PyProof.Rows PyProof.Rows.LCg
namespace Mine
theorem hideS {α : Type} {M : Model} {A : Around} {t : Sem α} {Q : α → Shared → Prop} {E : Value → Shared → Prop} {s : Shared} (h : ∀ R : α → Shared → Prop, (∀ a s', Q a s' → R a s') → wpS M A t R E s) : wpS M A t Q E s := h Q fun _ _ x => x
noncomputable def ConS (w : World) (dp un : Nat) (f : Addr) (args : List Value) (pre : Heap → Prop) (post : Value → List (Addr × Obj) → Prop) : Prop :=
  ∀ (gd : Option (List Code)) (outer : List Env) (base : Heap) (s : Shared) (tp : Program) (lo : List Str) (mean : ExcName → Option Value) (mg mb : Str → Option Value) (Q E : Value → Shared → Prop),
    Below (tA dp un gd outer) base outer s.heap → (hd.heap_1 w.params).In s.heap → Top tp lo mean mg mb s.heap → pre s.heap →
    (∀ r tl h' tk', s.heap.StaysIn h' → (∀ p ∈ tl, h'.get? p.1 = some p.2 ∧ s.heap.get? p.1 = none) → post r tl → Q r { s with heap := h', toks := tk' }) →
    wpS (model PySem.Challenge.rw_zn0014_01.prog w) (tA dp un gd outer) (call (.ref f) args) Q E s
theorem wpS_moreA {α : Type} {M : Model} {A A' : Around} {t : Sem α} {Q : α → Shared → Prop} {E : Value → Shared → Prop} {s : Shared}
    (hh : A'.handled = A.handled) (hd : A.depth ≤ A'.depth) (hf : A'.frames = A.frames) (hg : A'.guards = A.guards) (hu : A.units ≤ A'.units)
    (h : wpS M A' t Q E s) : wpS M A t Q E s := fun Γ p hΓ hc =>
  h Γ p ⟨hΓ.1.trans hh.symm, Nat.le_trans hΓ.2.1 hd, fun l hl => hΓ.2.2.1 l (hf ▸ hl), fun g hl => hΓ.2.2.2.1 g (hg ▸ hl), Nat.le_trans hΓ.2.2.2.2 hu⟩ hc
theorem useConS {w : World} {dp un d u : Nat} {f : Addr} {args : List Value} {pre : Heap → Prop} {post : Value → List (Addr × Obj) → Prop} (C : ConS w dp un f args pre post)
    {gd : Option (List Code)} {outer : List Env} {env : Env} {base h₀ : Heap} {A₀ : Around} {s : Shared} {L : Addr} {m : Str → Option Value} {news : List (Addr × Obj)} {tp : Program} {lo : List Str} {mean : ExcName → Option Value} {mg mb : Str → Option Value} {Q E : Value → Shared → Prop}
    (B : Below A₀ base outer h₀) (F : Fr h₀ L s.heap m) (X : (hd.heap_1 w.params).In h₀) (N : News h₀ L s.heap news) (T : Top tp lo mean mg mb h₀) (hf : env.frame = some L) (hke : env.scope.kind = .function)
    (hd : d ≤ dp) (hu : u ≤ un) (hpre : pre s.heap)
    (h : ∀ r tl h' tk', Fr h₀ L h' m → News h₀ L h' (tl ++ news) → (∀ q ∈ news, ∀ p ∈ tl, q.1 ≠ p.1) → s.heap.StaysIn h' → post r tl → Q r { s with heap := h', toks := tk' }) :
    wpS (model PySem.Challenge.rw_zn0014_01.prog w) (tA d u gd (env :: outer)) (call (.ref f) args) Q E s := by
  have B' := pushX B F hf hke
  refine wpS_moreA (A' := tA dp un gd (env :: outer)) rfl hd rfl rfl hu (C gd (env :: outer) base s tp lo mean mg mb Q E ⟨rfl, B'.stays, B'.frames⟩ (X.keeps F.keep) (T.keeps F.keep) hpre fun r tl h' tk' st hn hp => ?_)
  refine h r tl h' tk' (F.keeps st) (fun p hq => ?_) (fun q hq p hp e => ?_) st hp
  · rcases List.mem_append.mp hq with hq | hq
    · have nn := (hn p hq).2
      refine ⟨(hn p hq).1, fun e => ?_, ?_⟩
      · obtain ⟨oL, _, _, hL, _⟩ := F.ns
        rw [e, hL] at nn; cases nn
      · cases e : h₀.get? p.1 with
        | none => rfl
        | some o => rw [F.keep _ _ e] at nn; cases nn
    · exact ⟨st _ _ (N p hq).1, (N p hq).2⟩
  · have nn := (hn p hp).2
    rw [← e, (N q hq).1] at nn; cases nn
section
variable {w : World} {dp un : Nat} {gd : Option (List Code)} {outer : List Env} {base : Heap} {s : Shared} {tp : Program} {lo : List Str} {mean : ExcName → Option Value} {mg mb : Str → Option Value} {Q E : Value → Shared → Prop}
  {name qual : Str} {params : Arguments} {body : List Stmt} {scope : Scope} {dV kV doc pm cdv ct oc : Value} {an od : Option Addr} {osl : Array (Option Value)} {f : Addr} {args : List Value} {binds : List (Str × Value)} {P : Value → List (Addr × Obj) → Prop}
theorem enterPS (B : Below (tA dp un gd outer) base outer s.heap) (X : (hd.heap_1 w.params).In s.heap) (T : Top tp lo mean mg mb s.heap)
    (hQ : ∀ r tl h' tk', s.heap.StaysIn h' → (∀ p ∈ tl, h'.get? p.1 = some p.2 ∧ s.heap.get? p.1 = none) → P r tl → Q r { s with heap := h', toks := tk' })
    (ho : (hd.heap_1 w.params).lookup f = some ⟨oc, od, .func (fnOf name qual params body scope dV kV doc pm an cdv ct), osl⟩) (hcd : codeIn (hd.heap_1 w.params) cdv qual = true) (hroom : (tA dp un gd outer).depth < recursionLimit)
    (hbind : BindsTo s (fnOf name qual params body scope dV kV doc pm an cdv ct) ⟨args, []⟩ binds) (hloc : ∀ y ∈ binds, scope.names.lookup y.1 = some .local)
    (h : ∀ L' h₁, Fr s.heap L' h₁ (fun y => binds.reverse.lookup y) → News s.heap L' h₁ [] →
      wpS (model PySem.Challenge.rw_zn0014_01.prog w) (tA (dp + 1) (un + 3) gd (envOf qual scope L' f cdv :: outer)) (execs body (envOf qual scope L' f cdv))
        (fun fl s' => Back s P (match fl with | .ret v => v | _ => .none) s') (fun _ _ => False) { s with heap := h₁, toks := s.toks + binds.length })
    (hco : scope.isCoroutine = false) (hgen : scope.isGenerator = false) (hk : scope.kind = .function) (hcell : ∀ x ∈ scope.names, x.2 ≠ .cell) :
    wpS (model PySem.Challenge.rw_zn0014_01.prog w) (tA dp un gd outer) (call (.ref f) args) Q E s := by
  refine wpS_call ?_
  refine codeS_call_function (fd := fnOf name qual params body scope dV kV doc pm an cdv ct) (body := body) hroom (X _ _ ho) rfl hco hgen rfl (codeRec_of X hcd) (hbind _ _ _ _ ?_)
  refine wpAny_newFunctionEnv hcell hloc (fun h₁ hns hsb => ⟨T.nolimit.fresh _ hsb, codeS_func ?_⟩) hk
  have hk₁ : ∀ b o, s.heap.get? b = some o → h₁.get? b = some o := fun b o e => hsb.extBut b o (Nat.ne_of_lt (Heap.lt_size e)) (Heap.get?_push_of_some _ e)
  refine wpS_mono (h s.heap.objs.size h₁ ⟨hns, hk₁, Nat.le_refl _⟩ News.nil) (fun fl s' hb => ⟨_, rfl, back_use hQ hb⟩) (fun _ _ hf => hf.elim)
end
theorem enterCS {w : World} {dp un : Nat} {gd : Option (List Code)} {outer : List Env} {base : Heap} {s : Shared} {tp : Program} {lo : List Str} {mean : ExcName → Option Value} {mg mb : Str → Option Value} {Q E : Value → Shared → Prop}
  {name qual : Str} {params : Arguments} {body : List Stmt} {scope : Scope} {dV kV doc pm cdv ct oc : Value} {an od : Option Addr} {osl : Array (Option Value)} {f : Addr} {args : List Value} {binds : List (Str × Value)} {P : Value → List (Addr × Obj) → Prop}
    (B : Below (tA dp un gd outer) base outer s.heap) (X : (hd.heap_1 w.params).In s.heap) (T : Top tp lo mean mg mb s.heap)
    (hQ : ∀ r tl h' tk', s.heap.StaysIn h' → (∀ p ∈ tl, h'.get? p.1 = some p.2 ∧ s.heap.get? p.1 = none) → P r tl → Q r { s with heap := h', toks := tk' })
    (ho : (hd.heap_1 w.params).lookup f = some ⟨oc, od, .func (fnOf name qual params body scope dV kV doc pm an cdv ct), osl⟩) (hcd : codeIn (hd.heap_1 w.params) cdv qual = true) (hroom : (tA dp un gd outer).depth < recursionLimit)
    (hbind : BindsTo s (fnOf name qual params body scope dV kV doc pm an cdv ct) ⟨args, []⟩ binds) (hkind : (binds.all fun y => scope.names.lookup y.1 == some .local || scope.names.lookup y.1 == some .cell) = true)
    (hnd : ((cellsFrom 0 scope.names []).map (·.1)).Nodup)
    (h : ∀ L' h₁ tk cells, Fr s.heap L' h₁ (bindL (envOfC qual scope L' f cdv).kindOf binds fun _ => none) → News s.heap L' h₁ cells →
      CellsAre (bindC (envOfC qual scope L' f cdv).kindOf binds fun _ => none) (cellsFrom (L' + 1) scope.names []) cells →
      wpS (model PySem.Challenge.rw_zn0014_01.prog w) (tA (dp + 1) (un + 3) gd (envOfC qual scope L' f cdv :: outer)) (execs body (envOfC qual scope L' f cdv))
        (fun fl s' => Back s P (match fl with | .ret v => v | _ => .none) s') (fun _ _ => False) { s with heap := h₁, toks := tk })
    (hco : scope.isCoroutine = false) (hgen : scope.isGenerator = false) (hk : scope.kind = .function) :
    wpS (model PySem.Challenge.rw_zn0014_01.prog w) (tA dp un gd outer) (call (.ref f) args) Q E s := by
  refine wpS_call ?_
  refine codeS_call_function hroom (X _ _ ho) rfl hco hgen rfl (codeRec_of X hcd) (hbind _ _ _ _ ?_)
  refine wpAny_newFunctionEnv_cells hk (kindsX hkind _) fun env' he s' x => ?_
  subst he
  refine ⟨T.nolimit.keeps x.toInCall.keep, codeS_func ?_⟩
  obtain ⟨h₁, tk, rfl, _⟩ := x.done
  obtain ⟨cells, NC, Y⟩ := Cl.news (h₀ := s.heap) (Nat.le_refl _) fun n c hm => ⟨x.cell n c (lookup_of_mem_nodup (cellsFrom_names scope.names 0 (s.heap.objs.size + 1) [] [] rfl ▸ hnd) hm), x.above n c hm⟩
  refine wpS_mono (h s.heap.objs.size h₁ tk cells ⟨x.toInCall.ns, x.toInCall.keep, Nat.le_refl _⟩ NC Y) (fun fl s' hb => ⟨_, rfl, back_use hQ hb⟩) (fun _ _ hf => hf.elim)
section
variable {prog : Program} {w : World} {A : Around} {s : Shared} {h₀ : Heap} {L : Addr} {m : Str → Option Value} {env : Env} {E : Value → Shared → Prop}
theorem for_srcS {x : Str} {px : Pos} {body : List Stmt} {I : Addr} {fp : List Addr} {n : Nat} {P : Nat → Value → Prop} {St : Nat → Heap → Prop} {S : List (Addr × Obj) → Prop} {news : List (Addr × Obj)} {Q : Flow → Shared → Prop}
    (J : Nat → (Str → Option Value) → List (Addr × Obj) → Prop)
    (hLe : env.locals = L) (hx : env.kindOf x = some .local) (hp : (env.scope.kind == .class || (env.scope.kind == .module && env.locals != env.globals)) = false)
    (src : Src prog w A h₀ L I fp n P St S s.heap) (F : Fr h₀ L s.heap m) (N : News h₀ L s.heap news) (off : ∀ p ∈ news, p.1 ≠ I) (hS : S news) (hLf : L ∉ fp) (hJ : J 0 m news)
    (step : ∀ i v m₁ news₁ oI h tk, i < n → P i v → J i m₁ news₁ → Fr h₀ L h (fun y => if y = x then some v else m₁ y) → News h₀ L h ((I, oI) :: news₁) → (∀ p ∈ news₁, p.1 ≠ I) → S news₁ →
      wpS (model prog w) A (execs body env) (FTurn s h₀ L I oI S (J (i + 1)) Q) ff { s with heap := h, toks := tk })
    (done : ∀ m₁ news₁ h tk, J n m₁ news₁ → Fr h₀ L h m₁ → News h₀ L h news₁ → S news₁ → Q .next { s with heap := h, toks := tk }) :
    codeS (model prog w) A (.forLoop (.Name x px) (.ref I) body [] env) (fun r s' => ∃ f, r = .ok f ∧ Q f s') s := by
  subst hLe
  refine codeS_forLoop
    (FInv s h₀ env.locals I n St S J) ?_ (n + 1)
    ⟨s.heap, s.toks, 0, m, news, rfl, Nat.zero_le _, rfl, src.st, F, N, off, hS, hJ⟩
  intro k s' hI
  refine hideP fun G hG => ?_
  obtain ⟨h', tk, i, m', news', rfl, hi, rfl, hst', F', N', off', hS', hJ'⟩ := hI
  refine hG ?_
  clear hG G
  by_cases hlt : i < n
  · refine src.W.item i _ _ _ hlt hst' fun v h₁ tk₁ hP hst₁ hk₁ => ?_
    refine wpAny_of_eq (a := ()) (by rfl) ?_
    have F₁ := fr_but F' hk₁ src.ne src.base
    have N₁ := news_but N' hk₁ off'
    refine wpAny_assign_Name (wpAny_storeName_local hx F₁.ns (fun h₂ hn₂ hs₂ => ?_) hp)
    have F₂ := F₁.set hn₂ hs₂
    have N₂ := N₁.set hs₂
    have hst₂ : St (i + 1) h₂ := src.W.frame _ _ _ hst₁ fun b hb o e => hs₂.extBut b o (fun q => hLf (q ▸ hb)) e
    obtain ⟨oI, heI⟩ := src.io _ _ hst₂
    refine wpS_mono (step i v m' news' oI h₂ _ hlt hP hJ' F₂ (fun p hp => ?_) off' hS') (fun f s₃ h₃ => ?_) fun _ _ e => e.elim
    · rcases List.mem_cons.mp hp with rfl | hp
      · exact ⟨heI, Ne.symm src.ne, src.base⟩
      · exact N₂ p hp
    · have fin : FNxt s h₀ env.locals I oI S (J (i + 1)) s₃ → ∃ k', k' < n + 1 - i ∧ FInv s h₀ env.locals I n St S J k' s₃ := by
        rintro ⟨h₄, tk₄, m₄, news₄, rfl, F₄, N₄, off₄, hS₄, hJ₄⟩
        have N₄' : News h₀ env.locals h₄ news₄ := fun p hp => N₄ p (List.mem_cons_of_mem _ hp)
        exact ⟨n + 1 - (i + 1), by omega, h₄, tk₄, i + 1, m₄, news₄, rfl, hlt, rfl, src.keep _ _ _ _ _ hst₂ heI (N₄ (I, oI) List.mem_cons_self).1 F₄.keep N₄' hS₄, F₄, N₄', off₄, hS₄, hJ₄⟩
      cases f with
      | next => exact fin h₃
      | cont => exact fin h₃
      | brk => exact ⟨_, rfl, h₃⟩
      | ret v => exact ⟨_, rfl, h₃⟩
  · obtain rfl : i = n := Nat.le_antisymm hi (Nat.not_lt.mp hlt)
    refine src.W.done _ _ _ hst' fun h₂ tk₂ hk₂ => wpS_of (wpAny_execs_nil ?_)
    exact ⟨_, rfl, done m' news' h₂ tk₂ hJ' (fr_but F' hk₂ src.ne src.base) (news_but N' hk₂ off') hS'⟩
end
end Mine
end
section
open PySem PySem.W PySem.Calls PyProof.Rows PyProof.Rows.LCg
namespace Mine
noncomputable def ConM (w : World) (dp un : Nat) (f : Addr) (args : List Value) (D : Addr) (pre : Heap → Obj → Prop) (post : Value → Obj → List (Addr × Obj) → Prop) : Prop :=
  ∀ (gd : Option (List Code)) (outer : List Env) (base hb : Heap) (s : Shared) (tp : Program) (lo : List Str) (mean : ExcName → Option Value) (mg mb : Str → Option Value) (Q E : Value → Shared → Prop) (oD : Obj),
    hb.get? D = none → (∀ b, b ≠ D → hb.get? b = s.heap.get? b) → hb.objs.size = s.heap.objs.size →
    Below (tA dp un gd outer) base outer hb → (hd.heap_1 w.params).In hb → Top tp lo mean mg mb hb → s.heap.get? D = some oD → pre hb oD →
    (∀ r oD' tl h' tk', hb.StaysIn h' → h'.get? D = some oD' → (∀ p ∈ tl, h'.get? p.1 = some p.2 ∧ hb.get? p.1 = none ∧ p.1 ≠ D) → post r oD' tl → Q r { s with heap := h', toks := tk' }) →
    wpAny (model PySem.Challenge.rw_zn0014_01.prog w) (tA dp un gd outer) (call (.ref f) args) Q E s
theorem useConM {w : World} {dp un d u : Nat} {f D : Addr} {args : List Value} {pre : Heap → Obj → Prop} {post : Value → Obj → List (Addr × Obj) → Prop} (C : ConM w dp un f args D pre post)
    {gd : Option (List Code)} {outer : List Env} {env : Env} {base h₀ : Heap} {A₀ : Around} {s : Shared} {L : Addr} {m : Str → Option Value} (own : List (Addr × Obj)) {oD : Obj} (rest : List (Addr × Obj)) {tp : Program} {lo : List Str} {mean : ExcName → Option Value} {mg mb : Str → Option Value} {Q E : Value → Shared → Prop}
    (B : Below A₀ base outer h₀) (F : Fr h₀ L s.heap m) (X : (hd.heap_1 w.params).In h₀) (N : News h₀ L s.heap (own ++ (D, oD) :: rest)) (n1 : ∀ p ∈ own, p.1 ≠ D) (n2 : ∀ p ∈ rest, p.1 ≠ D) (T : Top tp lo mean mg mb h₀) (hf : env.frame = some L) (hke : env.scope.kind = .function)
    (hd : d ≤ dp) (hu : u ≤ un) (hpre : pre (s.heap.hide D) oD)
    (h : ∀ r oD' tl h' tk', Fr h₀ L h' m → News h₀ L h' (tl ++ (own ++ (D, oD') :: rest)) → (∀ q ∈ own ++ (D, oD') :: rest, ∀ p ∈ tl, q.1 ≠ p.1) → post r oD' tl → Q r { s with heap := h', toks := tk' }) :
    wpAny (model PySem.Challenge.rw_zn0014_01.prog w) (tA d u gd (env :: outer)) (call (.ref f) args) Q E s := by
  have ND := N (D, oD) (List.mem_append_right _ List.mem_cons_self)
  have Fb : Fr h₀ L (s.heap.hide D) m := by
    obtain ⟨oL, a1, a2, hL, a3⟩ := F.ns
    refine ⟨⟨oL, a1, a2, (Heap.hide_ne _ (Ne.symm ND.2.1)).trans hL, a3⟩, fun b o e => ?_, F.above⟩
    have hne : b ≠ D := fun q => by rw [q] at e; have := ND.2.2; dsimp only at this; rw [this] at e; cases e
    exact (Heap.hide_ne _ hne).trans (F.keep b o e)
  have B' := pushX B Fb hf hke
  refine wp_moreA (A' := tA dp un gd (env :: outer)) rfl hd rfl rfl hu (C gd (env :: outer) base (s.heap.hide D) s tp lo mean mg mb Q E oD (Heap.hide_self _ _) (fun b hb => Heap.hide_ne _ hb) (Heap.hide_size _ _) ⟨rfl, B'.stays, B'.frames⟩ (X.keeps Fb.keep) (T.keeps Fb.keep) ND.1 hpre fun r oD' tl h' tk' st hD hn hp => ?_)
  have hid : ∀ p ∈ own ++ rest, (s.heap.hide D).get? p.1 = some p.2 := by
    intro p hq
    have hp : p ∈ own ++ (D, oD) :: rest := by
      rcases List.mem_append.mp hq with hq | hq
      · exact List.mem_append_left _ hq
      · exact List.mem_append_right _ (List.mem_cons_of_mem _ hq)
    have hne : p.1 ≠ D := by
      rcases List.mem_append.mp hq with hq | hq
      · exact n1 p hq
      · exact n2 p hq
    exact (Heap.hide_ne _ hne).trans (N p hp).1
  have ex : ∀ q ∈ own ++ (D, oD') :: rest, q = (D, oD') ∨ q ∈ own ++ rest := by
    intro q hq
    rcases List.mem_append.mp hq with hq | hq
    · exact .inr (List.mem_append_left _ hq)
    · rcases List.mem_cons.mp hq with rfl | hq
      · exact .inl rfl
      · exact .inr (List.mem_append_right _ hq)
  refine h r oD' tl h' tk' ⟨?_, fun b o e => st _ _ (Fb.keep b o e), F.above⟩ (fun p hq => ?_) (fun q hq p hp e => ?_) hp
  · exact (Fb.keeps st).ns
  · rcases List.mem_append.mp hq with hq | hq
    · obtain ⟨h1, h2, h3⟩ := hn p hq
      refine ⟨h1, fun e => ?_, ?_⟩
      · obtain ⟨oL, _, _, hL, _⟩ := Fb.ns
        rw [e, hL] at h2; cases h2
      · cases e : h₀.get? p.1 with
        | none => rfl
        | some o => rw [Fb.keep _ _ e] at h2; cases h2
    · rcases ex p hq with rfl | hq
      · exact ⟨hD, ND.2.1, ND.2.2⟩
      · have hp : p ∈ own ++ (D, oD) :: rest := by
          rcases List.mem_append.mp hq with hq | hq
          · exact List.mem_append_left _ hq
          · exact List.mem_append_right _ (List.mem_cons_of_mem _ hq)
        exact ⟨st _ _ (hid p hq), (N p hp).2.1, (N p hp).2.2⟩
  · obtain ⟨h1, h2, h3⟩ := hn p hp
    rcases ex q hq with rfl | hq
    · exact h3 e.symm
    · rw [← e, hid q hq] at h2; cases h2
noncomputable def BackM (hb : Heap) (D : Addr) (s : Shared) (P : Value → Obj → List (Addr × Obj) → Prop) (v : Value) (s' : Shared) : Prop :=
  ∃ L m oD' news tl h' tk', s' = { s with heap := h', toks := tk' } ∧ Fr hb L h' m ∧ News hb L h' ((D, oD') :: news) ∧ (∀ p ∈ tl, p ∈ news ∧ p.1 ≠ D) ∧ P v oD' tl
theorem BackM.intro {hb : Heap} {D : Addr} {s : Shared} {P : Value → Obj → List (Addr × Obj) → Prop} {v : Value} {L : Addr} {m : Str → Option Value} {oD' : Obj} {all : List (Addr × Obj)} {h' : Heap} {tk' : Nat} (F : Fr hb L h' m) (N : News hb L h' all) (hD : (D, oD') ∈ all)
    (tl : List (Addr × Obj)) (hs : ∀ p ∈ tl, p ∈ all ∧ p.1 ≠ D) (hp : P v oD' tl) : BackM hb D s P v { s with heap := h', toks := tk' } :=
  ⟨L, m, oD', tl, tl, h', tk', rfl, F, fun p hq => by
    rcases List.mem_cons.mp hq with rfl | hq
    · exact N _ hD
    · exact N _ (hs p hq).1, fun p hq => ⟨hq, (hs p hq).2⟩, hp⟩
section
variable {w : World} {dp un : Nat} {gd : Option (List Code)} {outer : List Env} {base hb : Heap} {s : Shared} {tp : Program} {lo : List Str} {mean : ExcName → Option Value} {mg mb : Str → Option Value} {Q E : Value → Shared → Prop}
  {name qual : Str} {params : Arguments} {body : List Stmt} {scope : Scope} {dV kV doc pm cdv ct oc : Value} {an od : Option Addr} {osl : Array (Option Value)} {f D : Addr} {oD : Obj} {args : List Value} {binds : List (Str × Value)} {P : Value → Obj → List (Addr × Obj) → Prop}
theorem enterM (hD : hb.get? D = none) (hne : ∀ b, b ≠ D → hb.get? b = s.heap.get? b) (hz : hb.objs.size = s.heap.objs.size) (_B : Below (tA dp un gd outer) base outer hb) (X : (hd.heap_1 w.params).In hb) (T : Top tp lo mean mg mb hb) (hoD : s.heap.get? D = some oD)
    (hQ : ∀ r oD' tl h' tk', hb.StaysIn h' → h'.get? D = some oD' → (∀ p ∈ tl, h'.get? p.1 = some p.2 ∧ hb.get? p.1 = none ∧ p.1 ≠ D) → P r oD' tl → Q r { s with heap := h', toks := tk' })
    (ho : (hd.heap_1 w.params).lookup f = some ⟨oc, od, .func (fnOf name qual params body scope dV kV doc pm an cdv ct), osl⟩) (hcd : codeIn (hd.heap_1 w.params) cdv qual = true) (hroom : (tA dp un gd outer).depth < recursionLimit)
    (hbind : BindsTo s (fnOf name qual params body scope dV kV doc pm an cdv ct) ⟨args, []⟩ binds) (hkind : (binds.all fun y => scope.names.lookup y.1 == some .local || scope.names.lookup y.1 == some .cell) = true)
    (hnd : ((cellsFrom 0 scope.names []).map (·.1)).Nodup)
    (h : ∀ L' h₁ tk cells, Fr hb L' h₁ (bindL (envOfC qual scope L' f cdv).kindOf binds fun _ => none) → News hb L' h₁ (cells ++ [(D, oD)]) → (∀ p ∈ cells, p.1 ≠ D) →
      CellsAre (bindC (envOfC qual scope L' f cdv).kindOf binds fun _ => none) (cellsFrom (L' + 1) scope.names []) cells →
      wpAny (model PySem.Challenge.rw_zn0014_01.prog w) (tA (dp + 1) (un + 3) gd (envOfC qual scope L' f cdv :: outer)) (execs body (envOfC qual scope L' f cdv))
        (fun fl s' => BackM hb D s P (match fl with | .ret v => v | _ => .none) s') (fun _ _ => False) { s with heap := h₁, toks := tk })
    (hco : scope.isCoroutine = false) (hgen : scope.isGenerator = false) (hk : scope.kind = .function) :
    wpAny (model PySem.Challenge.rw_zn0014_01.prog w) (tA dp un gd outer) (call (.ref f) args) Q E s := by
  have st : hb.StaysIn s.heap := fun b o e => by
    have hbne : b ≠ D := fun q => by rw [q, hD] at e; cases e
    rw [← hne b hbne]; exact e
  refine wpAny_call ?_
  refine codeAny_call_function hroom (X.keeps st _ _ ho) rfl hco hgen rfl (codeRec_of (X.keeps st) hcd) (hbind _ _ _ _ ?_)
  refine wpAny_newFunctionEnv_cells hk (kindsX hkind _) fun env' he s' x => ?_
  subst he
  refine ⟨(T.nolimit.keeps st).keeps x.toInCall.keep, codeAny_func ?_⟩
  obtain ⟨h₁, tk, rfl, _⟩ := x.done
  obtain ⟨cells, NC, Y⟩ := Cl.news (h₀ := s.heap) (Nat.le_refl _) fun n c hm => ⟨x.cell n c (lookup_of_mem_nodup (cellsFrom_names scope.names 0 (s.heap.objs.size + 1) [] [] rfl ▸ hnd) hm), x.above n c hm⟩
  have hDlt : D < s.heap.objs.size := Heap.lt_size hoD
  have cne : ∀ p ∈ cells, p.1 ≠ D := fun p hp e => by have := (NC p hp).2.2; rw [e, hoD] at this; cases this
  have F : Fr hb s.heap.objs.size h₁ (bindL (envOfC qual scope s.heap.objs.size f cdv).kindOf binds fun _ => none) := ⟨x.toInCall.ns, fun b o e => x.toInCall.keep b o (st b o e), Nat.le_of_eq hz⟩
  refine wpAny_mono (h s.heap.objs.size h₁ tk cells F (fun p hp => ?_) cne Y) (fun fl s' hback => ?_) (fun _ _ hf => hf.elim)
  · rcases List.mem_append.mp hp with hp | hp
    · refine ⟨(NC p hp).1, (NC p hp).2.1, ?_⟩
      rw [hne _ (cne p hp)]; exact (NC p hp).2.2
    · rw [List.mem_singleton.mp hp]
      exact ⟨x.toInCall.keep _ _ hoD, Nat.ne_of_lt hDlt, hD⟩
  · obtain ⟨L, m, oD', news, tl, h', tk', rfl, F', N', hs, hp⟩ := hback
    exact hQ _ oD' tl h' tk' F'.keep (N' _ List.mem_cons_self).1 (fun p hq => ⟨(N' p (List.mem_cons_of_mem _ (hs p hq).1)).1, (N' p (List.mem_cons_of_mem _ (hs p hq).1)).2.2, (hs p hq).2⟩) hp
end
end Mine
end
section
open PySem PySem.W PySem.Calls PyProof.Rows PyProof.Rows.LCg
namespace Mine
noncomputable def nthC {α : Type} : List α → Nat → List α → List α
  | [], _, r => r
  | a :: _, 0, r => a :: r
  | _ :: l, n + 1, r => nthC l n r
noncomputable def pickN {α : Type} (l : List α) (n : Nat) : List Nat → List α
  | [] => l.drop n
  | i :: is => nthC l i (pickN l n is)
theorem mem_nthC {α : Type} {q : α} : ∀ {l : List α} {n : Nat} {r : List α}, q ∈ nthC l n r → q ∈ l ∨ q ∈ r
  | [], _, _, h => .inr h
  | _ :: _, 0, _, h => (List.mem_cons.mp h).elim (fun e => .inl (e ▸ .head _)) .inr
  | _ :: l, n + 1, _, h => (mem_nthC (l := l) (n := n) h).elim (fun h => .inl (.tail _ h)) .inr
theorem mem_pick {α : Type} {q : α} {l : List α} {n : Nat} : ∀ {is : List Nat}, q ∈ pickN l n is → q ∈ l
  | [], h => List.mem_of_mem_drop h
  | _ :: _, h => (mem_nthC h).elim id mem_pick
theorem all_pick {P : Addr × Obj → Prop} {l : List (Addr × Obj)} (h : ∀ q ∈ l, P q) (n : Nat) (is : List Nat) : ∀ q ∈ pickN l n is, P q := fun q hq => h q (mem_pick hq)
theorem News_pick {h₀ h : Heap} {L : Addr} {l : List (Addr × Obj)} (N : News h₀ L h l) (n : Nat) (is : List Nat) : News h₀ L h (pickN l n is) := fun q hq => N q (mem_pick hq)
theorem sub_pick {l : List (Addr × Obj)} (n : Nat) (is : List Nat) : ∀ q ∈ pickN l n is, q ∈ l := fun _ hq => mem_pick hq
theorem all_app {P : Addr × Obj → Prop} {a b : List (Addr × Obj)} (h1 : ∀ q ∈ a, P q) (h2 : ∀ q ∈ b, P q) : ∀ q ∈ a ++ b, P q := fun q hq => (List.mem_append.mp hq).elim (h1 q) (h2 q)
theorem all_tail {P : Addr × Obj → Prop} {a : Addr × Obj} {l : List (Addr × Obj)} (h : ∀ q ∈ a :: l, P q) : ∀ q ∈ l, P q := fun q hq => h q (.tail _ hq)
theorem all_drop {P : Addr × Obj → Prop} {l : List (Addr × Obj)} (n : Nat) (h : ∀ q ∈ l, P q) : ∀ q ∈ l.drop n, P q := fun q hq => h q (List.mem_of_mem_drop hq)
theorem News_drop {h₀ h : Heap} {L : Addr} {l : List (Addr × Obj)} (n : Nat) (N : News h₀ L h l) : News h₀ L h (l.drop n) := fun q hq => N q (List.mem_of_mem_drop hq)
theorem sub_drop {l : List (Addr × Obj)} (n : Nat) : ∀ q ∈ l.drop n, q ∈ l := fun _ hq => List.mem_of_mem_drop hq
theorem tests_go {prog : Program} {w : World} {A : Around} {E : Value → Shared → Prop} {s : Shared} {env : Env} {Q Q2 : Shared → Prop} (h : Q s) : wpAny (model prog w) A (tests [] env) (fun ok s' => if ok = true then Q s' else Q2 s') E s := wpAny_tests_nil (by simpa using h)
theorem fr_in {h₀ h : Heap} {L : Addr} {y : Str} {v : Option Value} {m m' : Str → Option Value} (e : m = m') (F : Fr h₀ L h (fun z => if z = y then v else m z)) : Fr h₀ L h (fun z => if z = y then v else m' z) := e ▸ F
theorem News_sub {h₀ h : Heap} {L : Addr} {l l' : List (Addr × Obj)} (N : News h₀ L h l) (s : ∀ q ∈ l', q ∈ l) : News h₀ L h l' := fun q hq => N q (s q hq)
theorem lookup_ite {y k : Str} {v : Value} {l : List (Str × Value)} : List.lookup y ((k, v) :: l) = if y = k then some v else List.lookup y l := by
  by_cases e : y = k
  · simp [e]
  · simp [List.lookup, e, beq_false_of_ne e]
theorem fr_lookup {h₀ h : Heap} {L : Addr} {l : List (Str × Value)} {l' : List (Str × Option Value)} (F : Fr h₀ L h (fun y => List.lookup y l)) (e : (l.map fun e => (e.1, some e.2)) = l') : Fr h₀ L h (mapOf l') := by
  have key : ∀ (l : List (Str × Value)) (y : Str), List.lookup y l = mapOf (l.map fun e => (e.1, some e.2)) y := fun l y => by
    induction l with
    | nil => rfl
    | cons a r ih =>
      obtain ⟨k, v⟩ := a
      rw [lookup_ite, ih]; rfl
  rw [← e, ← show (fun y => List.lookup y l) = mapOf (l.map fun e => (e.1, some e.2)) from funext (key l)]; exact F
noncomputable def nonesOf (ks : List Str) (l : List (Str × Option Value)) : List (Str × Option Value) := ks.map (fun k => (k, none)) ++ l
theorem nones_eq {l : List (Str × Option Value)} : ∀ {ks : List Str}, (ks.all fun k => (mapOf l k).isNone) = true → mapOf (nonesOf ks l) = mapOf l
  | [], _ => rfl
  | k :: ks, h => by
    rw [List.all_cons, Bool.and_eq_true] at h
    funext y
    show (if y = k then none else mapOf (nonesOf ks l) y) = mapOf l y
    rw [nones_eq h.2]
    split
    · next e => rw [e]; exact (Option.isNone_iff_eq_none.mp h.1).symm
    · rfl
theorem fr_nones {h₀ h : Heap} {L : Addr} (ks : List Str) {l l' : List (Str × Option Value)} (F : Fr h₀ L h (mapOf l)) (e : nonesOf ks l = l') (hk : (ks.all fun k => (mapOf l k).isNone) = true) : Fr h₀ L h (mapOf l') := by
  rw [← e, nones_eq hk]; exact F
end Mine
end
section
open PySem PySem.W PySem.Calls PyProof.Rows PyProof.Rows.LCg
namespace Mine
set_option maxRecDepth 100000
set_option maxHeartbeats 8000000
theorem c_places {w : World} {y : Int} {ty : Tok} : Con w 900 9000 112 [.int y ty] (fun _ => True)
    (fun r tl => ∃ p t1 t2 t3 t4, r = .ref p ∧ tl = [(p, listOf #[.int (y.fmod 4) t1, .int ((y.fdiv 4).fmod 3) t2, .int ((y.fdiv 12).fmod 2) t3, .int 0 t4] 0)]) := by
  w_top off
  intro gd outer base s tp lo mean mg mb Q E B X T hpre hret
  revert X
  k_fill
  intro X
  refine' enterP (binds := [(Str.ofString "y", .int y ty)]) B X T hret ?k6 ?k7 ?k8 ?k9 ?kL ?_ ?c2 ?c3 ?c4 ?c5
  case k6 => k_dflt k_is
  case k7 => k_dflt k_is
  case k8 => exact (by decide : (900:Nat) < recursionLimit)
  case k9 => exact BindsTo.of_eq rfl
  case kL => exact locs rfl
  case c5 => decide
  case c2 => exact rfl
  case c3 => exact rfl
  case c4 => exact rfl
  intro L' h' F N
  clear hret
  refine hide fun R hR => ?_
  k_steps
  exact hR _ _ (Back.intro (by k_asm) (by k_asm) [(_, _)] (by intro p hp; rw [List.mem_singleton.mp hp]; k_mem) ⟨_, _, _, _, _, rfl, rfl⟩)
section
local macro_rules | `(tactic| walk_at "call builtin:str.join") => `(tactic| (k_here; (with_reducible show wpAny _ _ (call (Value.builtin "str.join") _) _ _ _); with_unfolding_all refine join3 (News.get (by k_asm) (by k_mem)) ?_))
theorem c_text {w : World} {l : Addr} {a b c : Int} {ta tb tc : Tok} (ha : 0 ≤ a ∧ a < 256) (hb : 0 ≤ b ∧ b < 256) (hc : 0 ≤ c ∧ c < 256) :
   Con w 900 9000 117 [.ref l] (fun h => h.IsList l #[.int a ta, .int b tb, .int c tc]) (fun r tl => (∃ t, r = .str ⟨#[a.toNat, b.toNat, c.toNat]⟩ t) ∧ tl = []) := by
  w_top off
  intro gd outer base s tp lo mean mg mb Q E B X T hpre hret
  refine' enterP (binds := [(Str.ofString "octets", .ref l)]) B X T hret ?k6 ?k7 ?k8 ?k9 ?kL ?_ ?c2 ?c3 ?c4 ?c5
  case k6 => k_dflt k_is
  case k7 => k_dflt k_is
  case k8 => exact (by decide : (900:Nat) < recursionLimit)
  case k9 => exact BindsTo.of_eq rfl
  case kL => exact locs rfl
  case c5 => decide
  case c2 => exact rfl
  case c3 => exact rfl
  case c4 => exact rfl
  intro L' h' F N
  clear hret
  refine hide fun R hR => ?_
  k_steps
  exact hR _ _ (Back.intro (by k_asm) (by k_asm) [] (fun _ h => nomatch h) ⟨⟨_, rfl⟩, rfl⟩)
local macro_rules | `(tactic| walk_at "eval ListComp") => `(tactic| refine Stop.of ?_)
theorem c_textB {w : World} {a b c : UInt8} {t : Tok}  :
   Con w 900 9000 117 [.bytes #[a, b, c] t] (fun h => True) (fun r tl => (∃ t, r = .str ⟨#[a.toNat, b.toNat, c.toNat]⟩ t) ∧ tl = []) := by
  w_top off
  intro gd outer base s tp lo mean mg mb Q E B X T hpre hret
  refine' enterP (binds := [(Str.ofString "octets", .bytes #[a, b, c] t)]) B X T hret ?k6 ?k7 ?k8 ?k9 ?kL ?_ ?c2 ?c3 ?c4 ?c5
  case k6 => k_dflt k_is
  case k7 => k_dflt k_is
  case k8 => exact (by decide : (900:Nat) < recursionLimit)
  case k9 => exact BindsTo.of_eq rfl
  case kL => exact locs rfl
  case c5 => decide
  case c2 => exact rfl
  case c3 => exact rfl
  case c4 => exact rfl
  intro L' h' F N
  clear hret
  refine hide fun R hR => ?_
  k_steps
  unfold Stop
  k_dflt (refine lcE (L := L') (m := fun y => List.lookup y [(Str.ofString "octets", Value.bytes #[a, b, c] t)].reverse) (h₀ := s.heap) (by rfl) (by decide) (by rfl) (by decide) (by rfl) (by intro _; rfl) ?_)
  k_steps
  refine it_bytes rfl F N fun I g St src F1 N1 off => lc_map ([a, b, c].map fun c => .str ⟨#[c.toNat]⟩ 0) (by rfl) (by show 3 ≤ 1000; decide) rfl src F1 N1 off trivial ?_ ?_
  · intro C D i v ys oI oC h tk hi hP hC F2 N2
    obtain ⟨u, hC1, hC2⟩ := hC
    obtain ⟨c', t', hc, rfl⟩ := hP
    have hb : (0 : Int) ≤ (c'.toNat : Int) ∧ (c'.toNat : Int) < 256 := ⟨by omega, by have := c'.toNat_lt; omega⟩
    k_steps
    refine MapEnd.intro F2 N2 (fun _ h => h) ?_
    rw [List.getElem?_map, show [a, b, c][i]? = some c' from by simpa using hc]
    rfl
  · intro ys hys
    obtain ⟨t1, t2, t3, rfl⟩ := strs3 hys
    intro D h tk F3 N3 off3
    k_steps
    exact hR _ _ (Back.intro (by k_asm) (by k_asm) [] (fun _ h => nomatch h) ⟨⟨_, rfl⟩, rfl⟩)
end
end Mine
end
section
open PySem PySem.W PySem.Calls PyProof.Rows PyProof.Rows.LCg
namespace Mine
set_option maxRecDepth 100000
set_option maxHeartbeats 8000000
noncomputable def oct (v s : Int) (k j : Nat) : Int := if j = k then 40 * v else 10 * v * (4 - s)
noncomputable def Quarter (v : Int) : Prop := v = 1 ∨ v = 2 ∨ v = 3 ∨ v = 4
noncomputable def Wheel (k : Nat) : Prop := k = 0 ∨ k = 1 ∨ k = 2
noncomputable def hueOf (k : Nat) : UInt64 := if k = 0 then 0 else if k = 1 then 0x3FD5555555555555 else 0x3FE5555555555555
theorem oct_facts {v s : Int} (hv : Quarter v) (hs : Quarter s) : (∀ k j, 0 ≤ oct v s k j ∧ oct v s k j ≤ 160) ∧ ∀ k j i, i = k → j ≠ k → oct v s k j < oct v s k i := by
  refine ⟨fun k j => ?_, fun k j i hi hj => ?_⟩
  · unfold oct; rcases hv with rfl | rfl | rfl | rfl <;> rcases hs with rfl | rfl | rfl | rfl <;> split <;> omega
  · unfold oct; rw [if_neg hj, if_pos hi]; rcases hv with rfl | rfl | rfl | rfl <;> rcases hs with rfl | rfl | rfl | rfl <;> omega
theorem tup_eq {D : Addr} {H H' : UInt64} {t : Tok} {x y : Value} {n : Nat} (h : H = H') : [(D, (⟨.type "tuple", none, .seq #[.float H t, x, y] n, #[]⟩ : Obj))] = [(D, ⟨.type "tuple", none, .seq #[.float H' t, x, y] n, #[]⟩)] := by rw [h]
noncomputable def LightIs (v s : Int) (k : Nat) (r g b : Int) : Prop := r = oct v s k 0 ∧ g = oct v s k 1 ∧ b = oct v s k 2
theorem quarters {P : Int → Int → Prop} [∀ v s, Decidable (P v s)] (h : ([1, 2, 3, 4].all fun v => [1, 2, 3, 4].all fun s => decide (P v s)) = true) : ∀ v s, Quarter v → Quarter s → P v s := by
  intro v s hv hs
  simp only [List.all_cons, List.all_nil, Bool.and_true, Bool.and_eq_true, decide_eq_true_eq] at h
  rcases hv with rfl | rfl | rfl | rfl <;> rcases hs with rfl | rfl | rfl | rfl <;> simp only [h]
section
variable {prog : Program} {w : World} {A : Around} {s : Shared} {h₀ : Heap} {L : Addr} {m : Str → Option Value} {news : List (Addr × Obj)} {E : Value → Shared → Prop}
theorem max3K {a b c M : Int} {t u x : Tok} {Q : Value → Shared → Prop} (F : Fr h₀ L s.heap m) (N : News h₀ L s.heap news) (hh : A.handled = none) (hM : (if b > a then (if c > b then c else b) else (if c > a then c else a)) = M)
    (h : ∀ h' tk t, Fr h₀ L h' m → News h₀ L h' news → Q (.int M t) { s with heap := h', toks := tk }) : wpAny (model prog w) A (call (.builtin "max") [.int a t, .int b u, .int c x]) Q E s := by
  refine max_three_ints hh fun h' tk hk => ?_
  have key := fun t => h h' tk t (F.keeps hk) (N.grown hk)
  subst hM
  by_cases h1 : b > a <;> by_cases h2 : c > b <;> by_cases h3 : c > a <;> simp only [h1, h2, h3, if_true, if_false] at key ⊢ <;> exact key _
theorem min3K {a b c M : Int} {t u x : Tok} {Q : Value → Shared → Prop} (F : Fr h₀ L s.heap m) (N : News h₀ L s.heap news) (hh : A.handled = none) (hM : (if b < a then (if c < b then c else b) else (if c < a then c else a)) = M)
    (h : ∀ h' tk t, Fr h₀ L h' m → News h₀ L h' news → Q (.int M t) { s with heap := h', toks := tk }) : wpAny (model prog w) A (call (.builtin "min") [.int a t, .int b u, .int c x]) Q E s := by
  refine min_three_ints hh fun h' tk hk => ?_
  have key := fun t => h h' tk t (F.keeps hk) (N.grown hk)
  subst hM
  by_cases h1 : b < a <;> by_cases h2 : c < b <;> by_cases h3 : c < a <;> simp only [h1, h2, h3, if_true, if_false] at key ⊢ <;> exact key _
end
theorem hsv_facts {v s_ : Int} {k : Nat} {r g b : Int} (hv : Quarter v) (hs : Quarter s_) (hk : Wheel k) (hl : LightIs v s_ k r g b) :
    ∃ M m : Int, M = 40 * v ∧ m = 10 * v * (4 - s_) ∧ (0 ≤ m ∧ m < M ∧ M ≤ 160) ∧ (0 ≤ r ∧ r ≤ 160) ∧ (0 ≤ g ∧ g ≤ 160) ∧ (0 ≤ b ∧ b ≤ 160) ∧ (if g > r then (if b > g then b else g) else (if b > r then b else r)) = M ∧ (if g < r then (if b < g then b else g) else (if b < r then b else r)) = m ∧
      (r = M → k = 0) ∧ (¬ r = M → g = M → k = 1) ∧ (¬ r = M → ¬ g = M → k = 2) := by
  have hm : 0 ≤ 10 * v * (4 - s_) ∧ 10 * v * (4 - s_) < 40 * v ∧ 40 * v ≤ 160 := by
    rcases hv with rfl | rfl | rfl | rfl <;> rcases hs with rfl | rfl | rfl | rfl <;> decide
  refine ⟨40 * v, 10 * v * (4 - s_), rfl, rfl, hm, ?_⟩
  obtain ⟨rfl, rfl, rfl⟩ := hl
  generalize hM : 40 * v = M at hm
  generalize hM2 : 10 * v * (4 - s_) = m at hm
  unfold oct
  rw [hM, hM2]
  clear hM hM2 hv hs
  rcases hk with rfl | rfl | rfl
  · simp only [if_true, show ¬ (1 : Nat) = 0 by decide, show ¬ (2 : Nat) = 0 by decide, if_false]
    refine ⟨⟨by omega, by omega⟩, ⟨by omega, by omega⟩, ⟨by omega, by omega⟩, ?_, ?_, fun _ => trivial, fun h => absurd trivial h, fun h => absurd trivial h⟩
    · rw [if_neg (by omega), if_neg (by omega)]
    · rw [if_pos (by omega), if_neg (by omega)]
  · simp only [if_true, show ¬ (0 : Nat) = 1 by decide, show ¬ (2 : Nat) = 1 by decide, if_false]
    refine ⟨⟨by omega, by omega⟩, ⟨by omega, by omega⟩, ⟨by omega, by omega⟩, ?_, ?_, fun h => absurd h (Int.ne_of_lt hm.2.1), fun _ _ => trivial, fun _ h => absurd trivial h⟩
    · rw [if_pos (by omega), if_neg (by omega)]
    · rw [if_neg (by omega), if_neg (by omega)]
  · simp only [if_true, show ¬ (0 : Nat) = 2 by decide, show ¬ (1 : Nat) = 2 by decide, if_false]
    refine ⟨⟨by omega, by omega⟩, ⟨by omega, by omega⟩, ⟨by omega, by omega⟩, ?_, ?_, fun h => absurd h (Int.ne_of_lt hm.2.1), fun _ h => absurd h (Int.ne_of_lt hm.2.1), fun _ _ => trivial⟩
    · rw [if_neg (by omega), if_pos (by omega)]
    · rw [if_neg (by omega), if_neg (by omega)]
section
local macro_rules | `(tactic| walk_at "call builtin:max") => `(tactic| refine Stop.of ?_)
local macro_rules | `(tactic| walk_at "call builtin:min") => `(tactic| refine Stop.of ?_)
local macro_rules | `(tactic| walk_at "none 1") => `(tactic| skip)
theorem c_hsv {w : World} {v s_ : Int} {k : Nat} {r g b : Int} {tr tg tb : Tok} (hv : Quarter v) (hs : Quarter s_) (hk : Wheel k) (hl : LightIs v s_ k r g b) : Con w 900 9000 21 [.int r tr, .int g tg, .int b tb] (fun _ => True)
    (fun res tl => ∃ p t x y, res = .ref p ∧ tl = [(p, ⟨.type "tuple", none, .seq #[.float (hueOf k) t, x, y] 0, #[]⟩)]) := by
  w_top off
  intro gd outer base s tp lo mean mg mb Q E B X T hpre hret
  revert X
  k_fill
  intro X
  refine' enterP (binds := [(Str.ofString "r", .int r tr), (Str.ofString "g", .int g tg), (Str.ofString "b", .int b tb)]) B X T hret ?k6 ?k7 ?k8 ?k9 ?kL ?_ ?c2 ?c3 ?c4 ?c5
  case k6 => k_dflt k_is
  case k7 => k_dflt k_is
  case k8 => exact (by decide : (900:Nat) < recursionLimit)
  case k9 => exact BindsTo.of_eq rfl
  case kL => exact locs rfl
  case c5 => decide
  case c2 => exact rfl
  case c3 => exact rfl
  case c4 => exact rfl
  intro L' h' F N
  clear hret
  refine hide fun R hR => ?_
  refine hideP fun G hG => ?_
  obtain ⟨M, m, hMe, hme, ⟨hm0, hmM, hM1⟩, hb1, hb2, hb3, hmax, hmin, hk0, hk1, hk2⟩ := hsv_facts hv hs hk hl
  have hne : ¬ m = M := Int.ne_of_lt hmM
  refine hG ?_
  clear hG G
  k_steps
  unfold Stop
  refine max3K (by k_asm) (by k_asm) rfl hmax fun h1 tk1 tM F1 N1 => ?_
  clear hmax
  k_steps
  unfold Stop
  refine min3K (by k_asm) (by k_asm) rfl hmin fun h2 tk2 tm F2 N2 => ?_
  clear hmin
  k_steps
  all_goals (try (exact absurd (by assumption) hne))
  all_goals (try (exfalso; omega))
  all_goals (refine hR _ _ (Back.intro (by k_asm) (by k_asm) [(_, _)] (all_cons (by k_mem) all_nil) ⟨_, _, _, _, rfl, tup_eq ?_⟩))
  all_goals (clear hR X T B)
  all_goals (repeat (rename Fr _ _ _ _ => FX; clear FX))
  all_goals (repeat (rename News _ _ _ _ => NX; clear NX))
  all_goals first
    | (have k0 : k = 0 := hk0 (by assumption)
       clear hk0 hk1 hk2 hb1 hb2 hb3 hne hm0 hmM hM1
       repeat (rename_i hz; clear hz)
       subst k0 hMe hme; obtain ⟨rfl, rfl, rfl⟩ := hl; revert v s_; show ∀ v s : Int, Quarter v → Quarter s → _; refine quarters ?_; decide +kernel)
    | (have k0 : k = 1 := hk1 (by assumption) (by assumption)
       clear hk0 hk1 hk2 hb1 hb2 hb3 hne hm0 hmM hM1
       repeat (rename_i hz; clear hz)
       subst k0 hMe hme; obtain ⟨rfl, rfl, rfl⟩ := hl; revert v s_; show ∀ v s : Int, Quarter v → Quarter s → _; refine quarters ?_; decide +kernel)
    | (have k0 : k = 2 := hk2 (by assumption) (by assumption)
       clear hk0 hk1 hk2 hb1 hb2 hb3 hne hm0 hmM hM1
       repeat (rename_i hz; clear hz)
       subst k0 hMe hme; obtain ⟨rfl, rfl, rfl⟩ := hl; revert v s_; show ∀ v s : Int, Quarter v → Quarter s → _; refine quarters ?_; decide +kernel)
end
end Mine
end
section
open PySem PySem.W PySem.Calls PyProof.Rows PyProof.Rows.LCg
namespace Mine
set_option maxRecDepth 100000
set_option maxHeartbeats 8000000
noncomputable def HueBits (h : UInt64) (k : Nat) : Prop := (k = 0 ∧ h = 0) ∨ (k = 1 ∧ h = 0x3FD5555555555555) ∨ (k = 1 ∧ h = 0x3FD5555555555556) ∨ (k = 2 ∧ h = 0x3FE5555555555555) ∨ (k = 2 ∧ h = 0x3FE5555555555556)
noncomputable def QBits (b : UInt64) (i : Int) : Prop := (i = 1 ∧ b = 0x3FD0000000000000) ∨ (i = 2 ∧ b = 0x3FE0000000000000) ∨ (i = 3 ∧ b = 0x3FE8000000000000) ∨ (i = 4 ∧ b = 0x3FF0000000000000)
noncomputable def Rounds (x : UInt64) (i : Int) : Prop := Float64.isNaN (Float64.mul x (Float64.ofInt 160)) = false ∧ Float64.isInf (Float64.mul x (Float64.ofInt 160)) = false ∧ Flt.toInt Float64.nearestOf (Float64.mul x (Float64.ofInt 160)) = i
noncomputable def hueBs (k : Nat) : List UInt64 := if k = 0 then [0] else if k = 1 then [0x3FD5555555555555, 0x3FD5555555555556] else [0x3FE5555555555555, 0x3FE5555555555556]
noncomputable def qBs : List (UInt64 × Int) := [(0x3FD0000000000000, 1), (0x3FE0000000000000, 2), (0x3FE8000000000000, 3), (0x3FF0000000000000, 4)]
theorem hueBs_mem {h : UInt64} {k : Nat} (hh : HueBits h k) : h ∈ hueBs k := by
  rcases hh with ⟨rfl, rfl⟩ | ⟨rfl, rfl⟩ | ⟨rfl, rfl⟩ | ⟨rfl, rfl⟩ | ⟨rfl, rfl⟩ <;> decide
theorem qBs_mem {b : UInt64} {i : Int} (hq : QBits b i) : (b, i) ∈ qBs := by
  rcases hq with ⟨rfl, rfl⟩ | ⟨rfl, rfl⟩ | ⟨rfl, rfl⟩ | ⟨rfl, rfl⟩ <;> decide
theorem light_all {k : Nat} {P : UInt64 → UInt64 → UInt64 → Int → Int → Prop} [∀ h s v vi si, Decidable (P h s v vi si)] (t : ((hueBs k).all fun h => qBs.all fun s => qBs.all fun v => decide (P h s.1 v.1 v.2 s.2)) = true) :
    ∀ h s v vi si, QBits s si → QBits v vi → HueBits h k → P h s v vi si := by
  intro h s v vi si hs hv hh
  simp only [List.all_eq_true, decide_eq_true_eq] at t
  exact t h (hueBs_mem hh) _ (qBs_mem hs) _ (qBs_mem hv)
theorem hue_facts {h : UInt64} {k : Nat} (hh : HueBits h k) : Float64.isNaN (Float64.mul h 4618441417868443648) = false ∧ Float64.isInf (Float64.mul h 4618441417868443648) = false ∧
    (Flt.toInt Float64.truncOf (Float64.mul h 4618441417868443648)).natAbs < 2 ^ 1024 - 2 ^ 970 ∧ (Flt.toInt Float64.truncOf (Float64.mul h 4618441417868443648)).fmod 6 = 2 * (k : Int) ∧ (k = 0 ∨ k = 1 ∨ k = 2) := by
  rcases hh with ⟨rfl, rfl⟩ | ⟨rfl, rfl⟩ | ⟨rfl, rfl⟩ | ⟨rfl, rfl⟩ | ⟨rfl, rfl⟩ <;> exact ⟨by decide +kernel, by decide +kernel, by decide +kernel, by decide +kernel, by decide⟩
theorem q_cmp {b : UInt64} {i : Int} (hs : QBits b i) : (Float64.cmp b 0 == some Ordering.eq) = false := by
  rcases hs with ⟨_, rfl⟩ | ⟨_, rfl⟩ | ⟨_, rfl⟩ | ⟨_, rfl⟩ <;> decide +kernel
theorem c_rgb {w : World} {h s_ v : UInt64} {vi si : Int} {k : Nat} {th ts tv : Tok} (hh : HueBits h k) (hs : QBits s_ si) (hv : QBits v vi) : Con w 900 9000 28 [.float h th, .float s_ ts, .float v tv] (fun _ => True)
    (fun res tl => ∃ p X Y Z tx ty tz, res = .ref p ∧ tl = [(p, ⟨.type "tuple", none, .seq #[.float X tx, .float Y ty, .float Z tz] 0, #[]⟩)] ∧ Rounds X (oct vi si k 0) ∧ Rounds Y (oct vi si k 1) ∧ Rounds Z (oct vi si k 2)) := by
  w_top off
  intro gd outer base s tp lo mean mg mb Q E B X T hpre hret
  revert X
  k_fill
  intro X
  refine' enterP (binds := [(Str.ofString "h", .float h th), (Str.ofString "s", .float s_ ts), (Str.ofString "v", .float v tv)]) B X T hret ?k6 ?k7 ?k8 ?k9 ?kL ?_ ?c2 ?c3 ?c4 ?c5
  case k6 => k_dflt k_is
  case k7 => k_dflt k_is
  case k8 => exact (by decide : (900:Nat) < recursionLimit)
  case k9 => exact BindsTo.of_eq rfl
  case kL => exact locs rfl
  case c5 => decide
  case c2 => exact rfl
  case c3 => exact rfl
  case c4 => exact rfl
  intro L' h' F N
  have f0 := q_cmp hs
  obtain ⟨f1, f2, f3, f4, f5⟩ := hue_facts hh
  clear hret
  refine hide fun R hR => ?_
  k_steps
  all_goals (try (exfalso; omega))
  all_goals (refine hR _ _ (Back.intro (by k_asm) (by k_asm) [(_, _)] (by intro p hp; rw [List.mem_singleton.mp hp]; k_mem) ⟨_, _, _, _, _, _, _, rfl, rfl, ?_⟩))
  all_goals (clear hR X T B f0 f1 f2 f3)
  all_goals (repeat (rename Fr _ _ _ _ => FX; clear FX))
  all_goals (repeat (rename News _ _ _ _ => NX; clear NX))
  all_goals first
    | (have k0 : k = 0 := by omega
       clear f4 f5
       repeat (rename_i hz; clear hz)
       subst k0; unfold Rounds; revert h s_ v vi si; show ∀ (h s v : UInt64) (vi si : Int), QBits s si → QBits v vi → HueBits h 0 → _; refine light_all ?_; decide +kernel)
    | (have k0 : k = 1 := by omega
       clear f4 f5
       repeat (rename_i hz; clear hz)
       subst k0; unfold Rounds; revert h s_ v vi si; show ∀ (h s v : UInt64) (vi si : Int), QBits s si → QBits v vi → HueBits h 1 → _; refine light_all ?_; decide +kernel)
    | (have k0 : k = 2 := by omega
       clear f4 f5
       repeat (rename_i hz; clear hz)
       subst k0; unfold Rounds; revert h s_ v vi si; show ∀ (h s v : UInt64) (vi si : Int), QBits s si → QBits v vi → HueBits h 2 → _; refine light_all ?_; decide +kernel)
section
local macro_rules | `(tactic| walk_at "call ref") => `(tactic| refine stopAt [28] (by decide) ?_)
local macro_rules | `(tactic| walk_at "eval ListComp") => `(tactic| refine Stop.of ?_)
theorem c_painted {w : World} {h s_ v : UInt64} {vi si : Int} {k : Nat}  {th ts tv : Tok} (hh : HueBits h k) (hs : QBits s_ si) (hv : QBits v vi) : Con w 880 8800 122 [.float h th, .float s_ ts, .float v tv] (fun _ => True)
    (fun res tl => ∃ p t1 t2 t3, res = .ref p ∧ tl = [(p, lst [.int (oct vi si k 0) t1, .int (oct vi si k 1) t2, .int (oct vi si k 2) t3])]) := by
  w_top off
  intro gd outer base s tp lo mean mg mb Q E B X T hpre hret
  revert X
  k_fill
  intro X
  refine' enterP (binds := [(Str.ofString "hue", .float h th), (Str.ofString "share", .float s_ ts), (Str.ofString "level", .float v tv)]) B X T hret ?k6 ?k7 ?k8 ?k9 ?kL ?_ ?c2 ?c3 ?c4 ?c5
  case k6 => k_dflt k_is
  case k7 => k_dflt k_is
  case k8 => exact (by decide : (880:Nat) < recursionLimit)
  case k9 => exact BindsTo.of_eq rfl
  case kL => exact locs rfl
  case c5 => decide
  case c2 => exact rfl
  case c3 => exact rfl
  case c4 => exact rfl
  intro L' h' F N
  clear hret
  refine hide fun RQ hRQ => ?_
  k_steps
  unfold Stop
  k_dflt (refine lcE (L := L') (m := fun y => List.lookup y [(Str.ofString "hue", Value.float h th), (Str.ofString "share", Value.float s_ ts), (Str.ofString "level", Value.float v tv)].reverse) (h₀ := s.heap) (by rfl) (by decide) (by rfl) (by decide) (by rfl) (by intro _; rfl) ?_)
  k_steps
  unfold Stop
  refine hide fun R1 hR1 => ?_
  refine useCon (c_rgb hh hs hv) B F X N T rfl rfl (by decide) (by decide) trivial ?_
  rintro r tl h' tk' F' N' lt' st' ⟨p, X1, Y1, Z1, tx, ty, tz, rfl, rfl, hX, hY, hZ⟩
  refine hR1 _ _ ?_
  clear hR1 R1
  refine it_tuple rfl F' N' (.inr ⟨_, List.mem_cons_self, rfl, _, rfl⟩) fun I g St src F1 N1 off => lc_map [.int (oct vi si k 0) 0, .int (oct vi si k 1) 0, .int (oct vi si k 2) 0] (by rfl) (by show 3 ≤ 1000; decide) rfl src F1 N1 off (.inr ⟨_, List.mem_cons_self, rfl, _, rfl⟩) ?_ ?_
  · intro C D i v' ys oI oC h tk hi hP hC F2 N2
    refine hideP fun G hG => ?_
    obtain ⟨u, hC1, hC2⟩ := hC
    have hv' : ∃ x t i', v' = .float x t ∧ Rounds x i' ∧ [Value.int (oct vi si k 0) 0, .int (oct vi si k 1) 0, .int (oct vi si k 2) 0][i]? = some (.int i' 0) := by
      rcases (show i = 0 ∨ i = 1 ∨ i = 2 from by have h3 : i < 3 := hi; omega) with rfl | rfl | rfl
      · exact ⟨X1, tx, _, (Option.some.inj hP).symm, hX, rfl⟩
      · exact ⟨Y1, ty, _, (Option.some.inj hP).symm, hY, rfl⟩
      · exact ⟨Z1, tz, _, (Option.some.inj hP).symm, hZ, rfl⟩
    obtain ⟨x, t, i', hvx, hR, hi'⟩ := hv'
    obtain ⟨hR1, hR2, hR3⟩ := hR
    replace hC2 := hC2.trans (congrArg some hvx)
    refine hG ?_
    clear hG G hX hY hZ hvx hP
    k_steps
    all_goals (first | (exfalso; simp_all; done) | skip)
    refine MapEnd.intro (by k_asm) (by k_asm) (fun _ h => h) ?_
    rw [hR3, hi']; rfl
  · intro ys hys D h tk F3 N3 off3
    refine hideP fun G hG => ?_
    obtain ⟨t1, t2, t3, hys2⟩ := ints3 hys
    replace N3 : News s.heap L' h [(D, lst [.int (oct vi si k 0) t1, .int (oct vi si k 1) t2, .int (oct vi si k 2) t3])] := News_sub (hys2 ▸ N3) (all_cons (.head _) all_nil)
    refine hG ?_
    clear hG G
    k_steps
    exact hRQ _ _ (Back.intro (by k_asm) (by k_asm) [(_, _)] (by intro p hp; rw [List.mem_singleton.mp hp]; k_mem) ⟨_, _, _, _, rfl, rfl⟩)
end
end Mine
end
section
open PySem PySem.W PySem.Calls PyProof.Rows PyProof.Rows.LCg
namespace Mine
set_option maxRecDepth 100000
set_option maxHeartbeats 8000000
theorem c_isubF {w : World} {x y : UInt64} {t u : Tok} :
   Con w 900 9000 91 [.float x t, .float y u] (fun _ => True) (fun r tl => (∃ t, r = .float (Float64.sub x y) t) ∧ tl = []) := by
  w_top off
  intro gd outer base s tp lo mean mg mb Q E B X T hpre hret
  revert X
  k_fill
  intro X
  refine' enterP (binds := [(Str.ofString "a", .float x t), (Str.ofString "b", .float y u)]) B X T hret ?k6 ?k7 ?k8 ?k9 ?kL ?_ ?c2 ?c3 ?c4 ?c5
  case k6 => k_dflt k_is
  case k7 => k_dflt k_is
  case k8 => exact (by decide : (900:Nat) < recursionLimit)
  case k9 => exact BindsTo.of_eq rfl
  case kL => exact locs rfl
  case c5 => decide
  case c2 => exact rfl
  case c3 => exact rfl
  case c4 => exact rfl
  intro L' h' F N
  clear hret
  refine hide fun R hR => ?_
  k_steps
  exact hR _ _ (Back.intro (by k_asm) (by k_asm) [] all_nil ⟨⟨_, rfl⟩, rfl⟩)
theorem c_iaddF {w : World} {x y : UInt64} {t u : Tok} :
   Con w 900 9000 70 [.float x t, .float y u] (fun _ => True) (fun r tl => (∃ t, r = .float (Float64.add x y) t) ∧ tl = []) := by
  w_top off
  intro gd outer base s tp lo mean mg mb Q E B X T hpre hret
  revert X
  k_fill
  intro X
  refine' enterP (binds := [(Str.ofString "a", .float x t), (Str.ofString "b", .float y u)]) B X T hret ?k6 ?k7 ?k8 ?k9 ?kL ?_ ?c2 ?c3 ?c4 ?c5
  case k6 => k_dflt k_is
  case k7 => k_dflt k_is
  case k8 => exact (by decide : (900:Nat) < recursionLimit)
  case k9 => exact BindsTo.of_eq rfl
  case kL => exact locs rfl
  case c5 => decide
  case c2 => exact rfl
  case c3 => exact rfl
  case c4 => exact rfl
  intro L' h' F N
  clear hret
  refine hide fun R hR => ?_
  k_steps
  exact hR _ _ (Back.intro (by k_asm) (by k_asm) [] all_nil ⟨⟨_, rfl⟩, rfl⟩)
theorem c_imulF {w : World} {x : UInt64} {t u : Tok} :
   Con w 900 9000 84 [.float x t, .int 3 u] (fun _ => True) (fun r tl => (∃ t, r = .float (Float64.mul x (Float64.ofInt 3)) t) ∧ tl = []) := by
  w_top off
  intro gd outer base s tp lo mean mg mb Q E B X T hpre hret
  revert X
  k_fill
  intro X
  refine' enterP (binds := [(Str.ofString "a", .float x t), (Str.ofString "b", .int 3 u)]) B X T hret ?k6 ?k7 ?k8 ?k9 ?kL ?_ ?c2 ?c3 ?c4 ?c5
  case k6 => k_dflt k_is
  case k7 => k_dflt k_is
  case k8 => exact (by decide : (900:Nat) < recursionLimit)
  case k9 => exact BindsTo.of_eq rfl
  case kL => exact locs rfl
  case c5 => decide
  case c2 => exact rfl
  case c3 => exact rfl
  case c4 => exact rfl
  intro L' h' F N
  clear hret
  refine hide fun R hR => ?_
  k_steps
  exact hR _ _ (Back.intro (by k_asm) (by k_asm) [] all_nil ⟨⟨_, rfl⟩, rfl⟩)
theorem c_imodF {w : World} {x : UInt64} {t u : Tok} :
   Con w 900 9000 77 [.float x t, .int 1 u] (fun _ => True) (fun r tl => (∃ t, r = .float (Float64.divmod x (Float64.ofInt 1)).snd t) ∧ tl = []) := by
  w_top off
  intro gd outer base s tp lo mean mg mb Q E B X T hpre hret
  revert X
  k_fill
  intro X
  refine' enterP (binds := [(Str.ofString "a", .float x t), (Str.ofString "b", .int 1 u)]) B X T hret ?k6 ?k7 ?k8 ?k9 ?kL ?_ ?c2 ?c3 ?c4 ?c5
  case k6 => k_dflt k_is
  case k7 => k_dflt k_is
  case k8 => exact (by decide : (900:Nat) < recursionLimit)
  case k9 => exact BindsTo.of_eq rfl
  case kL => exact locs rfl
  case c5 => decide
  case c2 => exact rfl
  case c3 => exact rfl
  case c4 => exact rfl
  intro L' h' F N
  clear hret
  refine hide fun R hR => ?_
  k_steps
  exact hR _ _ (Back.intro (by k_asm) (by k_asm) [] all_nil ⟨⟨_, rfl⟩, rfl⟩)
theorem c_imodI {w : World} {a : Int} {t u : Tok} :
   Con w 900 9000 77 [.int a t, .int 3 u] (fun _ => True) (fun r tl => (∃ t, r = .int (a.fmod 3) t) ∧ tl = []) := by
  w_top off
  intro gd outer base s tp lo mean mg mb Q E B X T hpre hret
  revert X
  k_fill
  intro X
  refine' enterP (binds := [(Str.ofString "a", .int a t), (Str.ofString "b", .int 3 u)]) B X T hret ?k6 ?k7 ?k8 ?k9 ?kL ?_ ?c2 ?c3 ?c4 ?c5
  case k6 => k_dflt k_is
  case k7 => k_dflt k_is
  case k8 => exact (by decide : (900:Nat) < recursionLimit)
  case k9 => exact BindsTo.of_eq rfl
  case kL => exact locs rfl
  case c5 => decide
  case c2 => exact rfl
  case c3 => exact rfl
  case c4 => exact rfl
  intro L' h' F N
  clear hret
  refine hide fun R hR => ?_
  k_steps
  exact hR _ _ (Back.intro (by k_asm) (by k_asm) [] all_nil ⟨⟨_, rfl⟩, rfl⟩)
theorem c_negF {w : World} {x : UInt64} {t : Tok} :
   Con w 900 9000 42 [.float x t] (fun _ => True) (fun r tl => (∃ t, r = .float (Float64.neg x) t) ∧ tl = []) := by
  w_top off
  intro gd outer base s tp lo mean mg mb Q E B X T hpre hret
  revert X
  k_fill
  intro X
  refine' enterP (binds := [(Str.ofString "a", .float x t)]) B X T hret ?k6 ?k7 ?k8 ?k9 ?kL ?_ ?c2 ?c3 ?c4 ?c5
  case k6 => k_dflt k_is
  case k7 => k_dflt k_is
  case k8 => exact (by decide : (900:Nat) < recursionLimit)
  case k9 => exact BindsTo.of_eq rfl
  case kL => exact locs rfl
  case c5 => decide
  case c2 => exact rfl
  case c3 => exact rfl
  case c4 => exact rfl
  intro L' h' F N
  clear hret
  refine hide fun R hR => ?_
  k_steps
  exact hR _ _ (Back.intro (by k_asm) (by k_asm) [] all_nil ⟨⟨_, rfl⟩, rfl⟩)
end Mine
end
section
open PySem PySem.W PySem.Calls PyProof.Rows PyProof.Rows.LCg
namespace Mine
set_option maxRecDepth 100000
set_option maxHeartbeats 8000000
noncomputable def lt (v s : Int) (k : Nat) : Str := ⟨#[(oct v s k 0).toNat, (oct v s k 1).toNat, (oct v s k 2).toNat]⟩
theorem lt256 {x : Int} (h : 0 ≤ x ∧ x ≤ 160) : 0 ≤ x ∧ x < 256 := ⟨h.1, by omega⟩
theorem ord_out {v s : Int} {k i c : Nat} {t : Tok} (z : ∀ k j, 0 ≤ oct v s k j ∧ oct v s k j ≤ 160) (hi : i < (lt v s k).cps.size) (hc : (lt v s k).cps[i]? = some c) :
    some (nt (.int (c : Int) t)) = ([oct v s k 0, oct v s k 1, oct v s k 2].map fun c => Value.int c 0)[i]? := by
  have go : ∀ j, some (nt (.int (((oct v s k j).toNat : Nat) : Int) t)) = some (Value.int (oct v s k j) 0) := fun j => by rw [Int.toNat_of_nonneg (z k j).1]; rfl
  match i, hi, hc with
  | 0, _, hc => obtain rfl : (oct v s k 0).toNat = c := Option.some.inj hc; exact go 0
  | 1, _, hc => obtain rfl : (oct v s k 1).toNat = c := Option.some.inj hc; exact go 1
  | 2, _, hc => obtain rfl : (oct v s k 2).toNat = c := Option.some.inj hc; exact go 2
theorem met_facts {k1 k2 : Nat} (hk1 : Wheel k1) (hk2 : Wheel k2) : Float64.isNaN (Float64.mul (Float64.sub (hueOf k2) (hueOf k1)) (Float64.ofInt 3)) = false ∧ Float64.isInf (Float64.mul (Float64.sub (hueOf k2) (hueOf k1)) (Float64.ofInt 3)) = false ∧
    (Flt.toInt Float64.nearestOf (Float64.mul (Float64.sub (hueOf k2) (hueOf k1)) (Float64.ofInt 3))).fmod 3 = (((k2 + 3 - k1) % 3 : Nat) : Int) ∧ HueBits (Float64.divmod (Float64.neg (Float64.add (hueOf k1) (hueOf k2))) (Float64.ofInt 1)).snd ((6 - k1 - k2) % 3) := by
  unfold HueBits
  rcases hk1 with rfl | rfl | rfl <;> rcases hk2 with rfl | rfl | rfl <;> exact ⟨by decide +kernel, by decide +kernel, by decide +kernel, by decide +kernel⟩
theorem quarter_of {b : UInt64} {i : Int} (h : QBits b i) : Quarter i := by
  rcases h with ⟨rfl, _⟩ | ⟨rfl, _⟩ | ⟨rfl, _⟩ | ⟨rfl, _⟩ <;> simp [Quarter]
section
local macro_rules | `(tactic| walk_at "eval ListComp") => `(tactic| refine Stop.of ?_)
local macro_rules | `(tactic| walk_at "call ref") => `(tactic| refine stopAt [21, 117, 122, 91, 84, 77, 70, 42] (by decide) ?_)
theorem c_met {w : World} {vi si : Int} {k1 k2 : Nat} {sb vb : UInt64} {t1 t2 ts tv : Tok} (hk1 : Wheel k1) (hk2 : Wheel k2) (hs : QBits sb si) (hv : QBits vb vi) :
   Con w 860 8600 127 [.str (lt vi si k1) t1, .str (lt vi si k2) t2, .float sb ts, .float vb tv] (fun _ => True) (fun r tl => ∃ p t u, r = .ref p ∧ tl = [(p, ⟨.type "tuple", none, .seq #[.int ((k2 + 3 - k1) % 3 : Nat) t, .str (lt vi si ((6 - k1 - k2) % 3)) u] 0, #[]⟩)]) := by
  w_top off
  intro gd outer base s tp lo mean mg mb Q E B X T hpre hret
  revert X
  k_fill
  intro X
  refine' enterP (binds := [(Str.ofString "one", .str (lt vi si k1) t1), (Str.ofString "other", .str (lt vi si k2) t2), (Str.ofString "share", .float sb ts), (Str.ofString "level", .float vb tv)]) B X T hret ?k6 ?k7 ?k8 ?k9 ?kL ?_ ?c2 ?c3 ?c4 ?c5
  case k6 => k_dflt k_is
  case k7 => k_dflt k_is
  case k8 => exact (by decide : (860:Nat) < recursionLimit)
  case k9 => exact BindsTo.of_eq rfl
  case kL => exact locs rfl
  case c5 => decide
  case c2 => exact rfl
  case c3 => exact rfl
  case c4 => exact rfl
  intro L' h' F N
  have qv := quarter_of hv
  have qs := quarter_of hs
  have z := oct_facts qv qs
  obtain ⟨f1, f2, f3, f4⟩ := met_facts hk1 hk2
  clear hret
  refine hide fun R hR => ?_
  k_steps
  unfold Stop
  k_dflt (refine lcE (L := L') (m := fun y => List.lookup y [(Str.ofString "one", .str (lt vi si k1) t1), (Str.ofString "other", .str (lt vi si k2) t2), (Str.ofString "share", .float sb ts), (Str.ofString "level", .float vb tv)].reverse) (h₀ := s.heap) (by rfl) (by decide) (by rfl) (by decide) (by rfl) (by intro _; rfl) ?_)
  k_steps
  refine it_str rfl (by k_asm) (by k_asm) fun I g St src F1 N1 off => lc_map ([(oct vi si k1 0), (oct vi si k1 1), (oct vi si k1 2)].map fun c => .int c 0) (by rfl) (by show 3 ≤ 1000; decide) rfl src F1 N1 off trivial ?_ ?_
  · intro C D i v ys oI oC h tk hi hP hC F2 N2
    obtain ⟨u, hC1, hC2⟩ := hC
    obtain ⟨c', t', hc, rfl⟩ := hP
    k_steps
    refine MapEnd.intro (by k_asm) (by k_asm) (fun _ h => h) ?_
    exact ord_out z.1 hi hc
  intro ays ahys aD1 ah1 atk1 aF1 aN1 aoff1
  refine hideP fun G hG => ?_
  obtain ⟨au1, au2, au3, hays⟩ := ints3 ahys
  replace aN1 : News s.heap L' ah1 [(aD1, lst [.int (oct vi si k1 0) au1, .int (oct vi si k1 1) au2, .int (oct vi si k1 2) au3])] := hays ▸ aN1
  refine hG ?_
  clear hG G hays ahys aoff1
  k_steps
  unfold Stop
  refine hide fun R2 hR2 => ?_
  refine' useCon (c_hsv qv qs hk1 ⟨rfl, rfl, rfl⟩) ?kB ?kF ?kX ?kN ?kT rfl rfl ?kd ?ku ?kp ?_
  case kB => k_asm
  case kF => k_asm
  case kX => k_asm
  case kN => k_asm
  case kT => k_asm
  case kd => decide
  case ku => decide
  case kp => trivial
  rintro r tl h2 tk2 F2 N2 lt2 st2 ⟨p1, tp1, x1, y1, rfl, rfl⟩
  refine hR2 _ _ ?_
  clear hR2 R2 lt2 st2
  replace N2 : News s.heap L' h2 [(p1, ⟨.type "tuple", none, .seq #[.float (hueOf k1) tp1, x1, y1] 0, #[]⟩)] := fun q hq => N2 q (List.mem_append_left _ hq)
  k_steps
  unfold Stop
  k_dflt (refine lcE (L := L') (m := fun y => if y = Str.ofString "first" then some (Value.float (hueOf k1) tp1) else List.lookup y [(Str.ofString "one", .str (lt vi si k1) t1), (Str.ofString "other", .str (lt vi si k2) t2), (Str.ofString "share", .float sb ts), (Str.ofString "level", .float vb tv)].reverse) (h₀ := s.heap) (by rfl) (by decide) (by rfl) (by decide) (by rfl) (by intro _; rfl) ?_)
  k_steps
  refine it_str rfl (by k_asm) (by k_asm) fun I g St src F1 N1 off => lc_map ([(oct vi si k2 0), (oct vi si k2 1), (oct vi si k2 2)].map fun c => .int c 0) (by rfl) (by show 3 ≤ 1000; decide) rfl src F1 N1 off trivial ?_ ?_
  · intro C D i v ys oI oC h tk hi hP hC F2 N2
    obtain ⟨u, hC1, hC2⟩ := hC
    obtain ⟨c', t', hc, rfl⟩ := hP
    k_steps
    refine MapEnd.intro (by k_asm) (by k_asm) (fun _ h => h) ?_
    exact ord_out z.1 hi hc
  intro bys bhys bD1 bh1 btk1 bF1 bN1 boff1
  refine hideP fun G hG => ?_
  obtain ⟨bu1, bu2, bu3, hbys⟩ := ints3 bhys
  replace bN1 : News s.heap L' bh1 [(bD1, lst [.int (oct vi si k2 0) bu1, .int (oct vi si k2 1) bu2, .int (oct vi si k2 2) bu3])] := hbys ▸ News_pick bN1 2 [0]
  refine hG ?_
  clear hG G hbys bhys boff1
  k_steps
  unfold Stop
  refine hide fun R3 hR3 => ?_
  refine' useCon (c_hsv qv qs hk2 ⟨rfl, rfl, rfl⟩) ?kB ?kF ?kX ?kN ?kT rfl rfl ?kd ?ku ?kp ?_
  case kB => k_asm
  case kF => k_asm
  case kX => k_asm
  case kN => k_asm
  case kT => k_asm
  case kd => decide
  case ku => decide
  case kp => trivial
  rintro r tl h3 tk3 F3 N3 lt3 st3 ⟨p2, tp2, x2, y2, rfl, rfl⟩
  refine hR3 _ _ ?_
  clear hR3 R3 lt3 st3
  replace N3 : News s.heap L' h3 [(p2, ⟨.type "tuple", none, .seq #[.float (hueOf k2) tp2, x2, y2] 0, #[]⟩)] := fun q hq => N3 q (List.mem_append_left _ hq)
  k_steps
  unfold Stop
  refine hide fun Q1 hQ1 => ?_
  refine' useCon c_isubF ?kB ?kF ?kX ?kN ?kT rfl rfl ?kd ?ku ?kp ?_
  case kB => k_asm
  case kF => k_asm
  case kX => k_asm
  case kN => k_asm
  case kT => k_asm
  case kd => decide
  case ku => decide
  case kp => trivial
  rintro r tl g1 gk1 G1 M1 lg1 sg1 ⟨⟨gt1, rfl⟩, rfl⟩
  refine hQ1 _ _ ?_
  clear hQ1 Q1 lg1 sg1
  replace M1 : News s.heap L' g1 [] := fun q hq => nomatch hq
  k_steps
  unfold Stop
  refine hide fun Q2 hQ2 => ?_
  refine' useCon c_imulF ?kB ?kF ?kX ?kN ?kT rfl rfl ?kd ?ku ?kp ?_
  case kB => k_asm
  case kF => k_asm
  case kX => k_asm
  case kN => k_asm
  case kT => k_asm
  case kd => decide
  case ku => decide
  case kp => trivial
  rintro r tl g2 gk2 G2 M2 lg2 sg2 ⟨⟨gt2, rfl⟩, rfl⟩
  refine hQ2 _ _ ?_
  clear hQ2 Q2 lg2 sg2
  replace M2 : News s.heap L' g2 [] := fun q hq => nomatch hq
  k_steps
  all_goals (first | (exfalso; simp_all; done) | skip)
  unfold Stop
  refine hide fun Q3 hQ3 => ?_
  refine' useCon c_imodI ?kB ?kF ?kX ?kN ?kT rfl rfl ?kd ?ku ?kp ?_
  case kB => k_asm
  case kF => k_asm
  case kX => k_asm
  case kN => k_asm
  case kT => k_asm
  case kd => decide
  case ku => decide
  case kp => trivial
  rintro r tl g3 gk3 G3 M3 lg3 sg3 ⟨⟨gt3, rfl⟩, rfl⟩
  refine hQ3 _ _ ?_
  clear hQ3 Q3 lg3 sg3
  replace M3 : News s.heap L' g3 [] := fun q hq => nomatch hq
  k_steps
  unfold Stop
  refine hide fun Q4 hQ4 => ?_
  refine' useCon c_iaddF ?kB ?kF ?kX ?kN ?kT rfl rfl ?kd ?ku ?kp ?_
  case kB => k_asm
  case kF => k_asm
  case kX => k_asm
  case kN => k_asm
  case kT => k_asm
  case kd => decide
  case ku => decide
  case kp => trivial
  rintro r tl g4 gk4 G4 M4 lg4 sg4 ⟨⟨gt4, rfl⟩, rfl⟩
  refine hQ4 _ _ ?_
  clear hQ4 Q4 lg4 sg4
  replace M4 : News s.heap L' g4 [] := fun q hq => nomatch hq
  k_steps
  unfold Stop
  refine hide fun Q5 hQ5 => ?_
  refine' useCon c_negF ?kB ?kF ?kX ?kN ?kT rfl rfl ?kd ?ku ?kp ?_
  case kB => k_asm
  case kF => k_asm
  case kX => k_asm
  case kN => k_asm
  case kT => k_asm
  case kd => decide
  case ku => decide
  case kp => trivial
  rintro r tl g5 gk5 G5 M5 lg5 sg5 ⟨⟨gt5, rfl⟩, rfl⟩
  refine hQ5 _ _ ?_
  clear hQ5 Q5 lg5 sg5
  replace M5 : News s.heap L' g5 [] := fun q hq => nomatch hq
  k_steps
  unfold Stop
  refine hide fun Q6 hQ6 => ?_
  refine' useCon c_imodF ?kB ?kF ?kX ?kN ?kT rfl rfl ?kd ?ku ?kp ?_
  case kB => k_asm
  case kF => k_asm
  case kX => k_asm
  case kN => k_asm
  case kT => k_asm
  case kd => decide
  case ku => decide
  case kp => trivial
  rintro r tl g6 gk6 G6 M6 lg6 sg6 ⟨⟨gt6, rfl⟩, rfl⟩
  refine hQ6 _ _ ?_
  clear hQ6 Q6 lg6 sg6
  replace M6 : News s.heap L' g6 [] := fun q hq => nomatch hq
  k_steps
  unfold Stop
  refine hide fun R4 hR4 => ?_
  refine' useCon (c_painted f4 hs hv) ?kB ?kF ?kX ?kN ?kT rfl rfl ?kd ?ku ?kp ?_
  case kB => k_asm
  case kF => k_asm
  case kX => k_asm
  case kN => k_asm
  case kT => k_asm
  case kd => decide
  case ku => decide
  case kp => trivial
  rintro r tl h4 tk4 F4 N4 lt4 st4 ⟨p3, v1, v2, v3, rfl, rfl⟩
  refine hR4 _ _ ?_
  clear hR4 R4 lt4 st4
  replace N4 : News s.heap L' h4 [(p3, lst [.int (oct vi si ((6 - k1 - k2) % 3) 0) v1, .int (oct vi si ((6 - k1 - k2) % 3) 1) v2, .int (oct vi si ((6 - k1 - k2) % 3) 2) v3])] := fun q hq => N4 q (List.mem_append_left _ hq)
  k_steps
  unfold Stop
  refine hide fun R5 hR5 => ?_
  refine' useCon (c_text (a := oct vi si ((6 - k1 - k2) % 3) 0) (b := oct vi si ((6 - k1 - k2) % 3) 1) (c := oct vi si ((6 - k1 - k2) % 3) 2) (ta := v1) (tb := v2) (tc := v3) (lt256 (z.1 _ _)) (lt256 (z.1 _ _)) (lt256 (z.1 _ _))) ?kB ?kF ?kX ?kN ?kT rfl rfl ?kd ?ku ?kp ?_
  case kB => k_asm
  case kF => k_asm
  case kX => k_asm
  case kN => k_asm
  case kT => k_asm
  case kd => decide
  case ku => decide
  case kp => exact ⟨_, (N4 _ List.mem_cons_self).1, rfl, _, rfl⟩
  rintro r tl h5 tk5 F5 N5 lt5 st5 ⟨⟨x, rfl⟩, rfl⟩
  refine hR5 _ _ ?_
  clear hR5 R5 lt5 st5
  replace N5 : News s.heap L' h5 [] := fun q hq => nomatch hq
  k_steps
  rw [f3] at *
  exact hR _ _ (Back.intro (by k_asm) (by k_asm) [(_, _)] (by intro p hp; rw [List.mem_singleton.mp hp]; k_mem) ⟨_, _, _, rfl, rfl⟩)
end
end Mine
end
section
open PySem PySem.W PySem.Calls PyProof.Rows PyProof.Rows.LCg
namespace Mine
set_option maxRecDepth 100000
set_option maxHeartbeats 8000000
section
local macro_rules | `(tactic| walk_at "call builtin:hasattr") => `(tactic| refine Stop.of ?_)
theorem c_concat {w : World} {x y : Str} {t u : Tok} (hx : x.cps.size = 3) (hy : y.cps.size = 3) :
   Con w 860 8600 49 [.str x t, .str y u] (fun _ => True) (fun r tl => ∃ t, r = .str (x ++ y) t ∧ tl = []) := by
  w_top off
  intro gd outer base s tp lo mean mg mb Q E B X T hpre hret
  revert X
  k_fill
  intro X
  refine' enterP (binds := [(Str.ofString "a", .str x t), (Str.ofString "b", .str y u)]) B X T hret ?k6 ?k7 ?k8 ?k9 ?kL ?_ ?c2 ?c3 ?c4 ?c5
  case k6 => k_dflt k_is
  case k7 => k_dflt k_is
  case k8 => exact (by decide : (860:Nat) < recursionLimit)
  case k9 => exact BindsTo.of_eq rfl
  case kL => exact locs rfl
  case c5 => decide
  case c2 => exact rfl
  case c3 => exact rfl
  case c4 => exact rfl
  intro L' h' F N
  have l1 : x.length = 3 := hx
  have l2 : y.length = 3 := hy
  k_steps
  unfold Stop
  refine hasattr_str (X.keeps (Fr.keep ‹Fr _ _ _ _›)) fun h5 st5 => ?_
  have F5 := (‹Fr _ _ _ _›).keeps st5
  have N5 := (‹News _ _ _ _›).grown st5
  clear F N
  k_steps
  exact Back.intro F5 N5 [] (by simp) ⟨_, rfl, rfl⟩
end
end Mine
end
section
open PySem PySem.W PySem.W.X PySem.Calls PyProof.Rows
namespace Mine
set_option maxRecDepth 100000
set_option maxHeartbeats 8000000
theorem clean_ne {id : String} {a : Args} (cx : clean (.builtin id a) = true) : (id ≠ "bytearray.__contains__" ∧ id ≠ "bytearray.__mod__" ∧ id ≠ "bytearray.__rmod__" ∧ id ≠ "_struct.pack_into.held" ∧ id ≠ "bytearray.find.held") ∧ Builtin.Bytes.decodersThatHold.contains id = false := by
  have h : ¬ id ∈ holdIds := fun hm => by
    have : holdIds.contains id = true := List.contains_iff_mem.mpr hm
    simp only [clean, this] at cx
    cases cx
  refine ⟨⟨?_, ?_, ?_, ?_, ?_⟩, ?_⟩
  · rintro rfl; exact h (.head _)
  · rintro rfl; exact h (.tail _ (.head _))
  · rintro rfl; exact h (.tail _ (.tail _ (.head _)))
  · rintro rfl; exact h (.tail _ (.tail _ (.tail _ (.head _))))
  · rintro rfl; exact h (.tail _ (.tail _ (.tail _ (.tail _ (.head _)))))
  · cases e : Builtin.Bytes.decodersThatHold.contains id with
    | false => rfl
    | true => exact absurd (List.mem_append_right _ (List.contains_iff_mem.mp e)) h
theorem wpS_exported {M : Model} {A : Around} {self : Value} {Q : Bool → Shared → Prop} {E : Value → Shared → Prop} {s : Shared} (h : Q false s) : wpS M A (Builtin.Bytes.exported self) Q E s := by
  intro Γ p hΓ hc
  have key : ∀ x ∈ ((Γ.code, p) :: Γ.below), clean x.1 = true := all_cons hc.1 hc.2
  unfold Builtin.Bytes.exported
  rw [Sem.wp_bind']
  unfold stack
  rw [Sem.wp_stack]
  show Q (List.any _ _) s
  rw [List.any_eq_false.mpr ?_]
  · exact h
  · intro x hx
    have cx := key x hx
    obtain ⟨c, q⟩ := x
    refine Bool.eq_false_iff.mp ?_
    cases c with
    | builtin id args =>
      obtain ⟨⟨h1, h2, h3, h4, h5⟩, h6⟩ := clean_ne cx
      obtain ⟨pos, kw⟩ := args
      delta Builtin.Bytes.exported.match_1
      refine (dif_neg h1).trans ((dif_neg h2).trans ((dif_neg h3).trans ((dif_neg h4).trans ((dif_neg h5).trans ?_))))
      cases pos with
      | nil => rfl
      | cons v r => exact (congrArg _ h6).trans (Bool.and_false _)
    | _ => rfl
local macro_rules | `(tactic| x_close) => `(tactic| (apply_assumption; exact mem_stays (by assumption); exact ((Mem.nw (by assumption)) _ List.mem_cons_self).1; exact ((Mem.nw (by assumption)) _ List.mem_cons_self).2))
local macro_rules | `(tactic| walk_at "none 2") => `(tactic| skip)
theorem ba_lay {w : World} {A : Around} {Q E : Value → Shared → Prop} {s : Shared} {n : Nat} {t : Tok} (_X : (hd.heap_1 w.params).In s.heap)
  (_h : ∀ a h', s.heap.StaysIn h' → h'.get? a = some ⟨.type "bytearray", none, .bytearray #[] 0, #[]⟩ → s.heap.get? a = none → Q (.ref a) { s with heap := h' }) : wpAny (model PySem.Challenge.rw_zn0014_01.prog w) A (call (.builtin "bytearray.__new__") [.type "bytearray", .int (n : Int) t]) Q E s := by
  w_top off
  x_run
theorem ba_write {M : Model} {A : Around} {Q : Unit → Shared → Prop} {E : Value → Shared → Prop} {s : Shared} {a : Addr} {b : Array UInt8} {f : Array UInt8 → Array UInt8}
    (ho : s.heap.get? a = some ⟨.type "bytearray", none, .bytearray b 0, #[]⟩) (hf : (f b).size ≤ 20)
    (h : ∀ h', h'.get? a = some ⟨.type "bytearray", none, .bytearray (f b) 0, #[]⟩ → Heap.SameBut a s.heap h' → Q () { s with heap := h' }) : wpAny M A (Builtin.Bytes.write (.ref a) f) Q E s := by
  unfold Builtin.Bytes.write updateBytearray
  refine wpAny_bind (wpAny_load ho ?_)
  dsimp only
  have h1 : (s.heap.update a (Obj.mapBytearray f)).get? a = some ⟨.type "bytearray", none, .bytearray (f b) 0, #[]⟩ := Heap.get?_update_self _ ho rfl
  exact wpAny_bind (wpAny_update ho (wpAny_lookBehind h1 (by show (if (f b).size > sizeLine then some "bytearray:memory" else none) = none; rw [if_neg (by simp only [sizeLine]; omega)]) (h _ h1 (Heap.SameBut.update ..))))
theorem den_builtin {prog : Program} {w : World} {n : String} {args : Args} : (model prog w).den (.builtin n args) = (match entryFor table n with | some b => b args | none => unsupported ((withoutEnding? n "#data").getD n)) := rfl
theorem codeS_builtin {prog : Program} {w : World} {A : Around} {n : String} {args : Args} {b : Args → Sem Fin} {R : Result → Shared → Prop} {s : Shared} (hcl : clean (.builtin n args) = true) (he : entryFor table n = some b)
    (h : wpS (model prog w) (A.under (.builtin n args)) (b args) (fun fin s' => match fin with | .done f => R (.ok f) s' | .again c' => c'.quiet = true ∧ codeS (model prog w) A c' R s') (fun e s' => R (.error e) s') s) : codeS (model prog w) A (.builtin n args) R s :=
  codeS_of_tree hcl (by rw [den_builtin, he]; exact h)
theorem ba_tc {n : Nat} {t : Tok} : checkTypeCall "bytearray" ⟨[.int (n : Int) t], []⟩ = pure () := by kernel_rfl
theorem ba_mro : mroOf (.type "bytearray") = pure [.type "bytearray", .type "object"] := by rw [mroOf_type]; kernel_rfl
theorem ba_lnew : typeLookup (.type "bytearray") "__new__" = pure (some (.builtin "bytearray.__new__")) := by rw [typeLookup_type, builtinLookup_eq_fast]; kernel_rfl
theorem ba_made : Bind.madeBy (.type "bytearray") = pure (some "bytearray.__new__") := madeBy_type ba_mro ba_lnew (by decide +kernel)
theorem ba_sub : isSubtype (.type "bytearray") (.type "bytearray") = pure true := by rw [isSubtype_type]; kernel_rfl
theorem ba_slot : Slot "bytearray" "__init__" "bytearray.__init__" := Slot.of (owner := "bytearray") (n := "__init__") (by rw [typeLookup_type, builtinLookup_eq_fast]; kernel_rfl) (by decide +kernel) (by decide +kernel) (by decide +kernel) (.inl (by decide +kernel)) ba_sub
theorem ba_lrel : typeLookup (.type "bytearray") "__release_buffer__" = pure (some (.builtin "bytearray.__release_buffer__")) := by rw [typeLookup_type, builtinLookup_eq_fast]; kernel_rfl
theorem ba_entry : entryFor table "bytearray.__init__" = some Builtin.«bytearray.__init__» := entryFor_of_tree (by kernel_rfl)
theorem ba_bind {n : Nat} {t : Tok} : Builtin.Bytes.bindOptional "bytearray.__init__" "bytearray" ["source", "encoding", "errors"] [.int (n : Int) t] [] = pure [some (.int (n : Int) t), none, none] := by kernel_rfl
theorem ba_args {a : Addr} {n : Nat} {t : Tok} : argsOk "bytearray.__init__" ⟨[.ref a, .int (n : Int) t], []⟩ := by kernel_rfl
theorem ba_new {w : World} {A : Around} {Q E : Value → Shared → Prop} {s : Shared} {n : Nat} {t : Tok} (_X : (hd.heap_1 w.params).In s.heap) (_h0 : 0 < n) (_hn : n ≤ 20)
  (_h : ∀ a h', s.heap.StaysIn h' → h'.get? a = some ⟨.type "bytearray", none, .bytearray (Array.replicate n 0) 0, #[]⟩ → s.heap.get? a = none → Q (.ref a) { s with heap := h' }) : wpS (model PySem.Challenge.rw_zn0014_01.prog w) A (call (.type "bytearray") [.int (n : Int) t]) Q E s := by
  refine wpS_call (codeS_of_tree rfl ?_)
  show wpS _ _ (again (.builtin "type.__call__" ⟨[.type "bytearray", .int (n : Int) t], []⟩)) _ _ _
  refine wpS_pure ⟨Code.quiet_builtin _ (by decide +kernel), codeS_builtin rfl F.entry_type_call ?_⟩
  unfold Builtin.«type.__call__»
  dsimp only
  rw [if_neg (by decide), if_neg (by decide +kernel)]
  refine wpS_first (wpAny_of_eq ba_tc (wpS_first (wpAny_of_eq ba_mro ?_)))
  rw [if_neg (by decide)]
  refine wpS_first (wpAny_of_eq ba_made ?_)
  dsimp only
  refine wpS_first (wpAny_pure (wpS_bind (wpS_holding (wpS_of (ba_lay _X ?_)))))
  intro a h' st ha hn
  have hT : Shared.TypeIs { s with heap := h' } (.ref a) "bytearray" := ⟨_, ha, rfl⟩
  refine wpS_first (wpAny_isInstance (T := "bytearray") hT ba_sub ?_)
  simp only [Bool.not_true, Bool.false_eq_true, if_false]
  refine wpS_bind (wpS_holding ?_)
  simp only [callSpecial?]
  refine wpS_first (wpAny_specialOf hT ba_slot.lookup ?_)
  simp only [ba_slot.bind]
  refine wpS_holding (wpS_first (wpAny_pure (wpS_bind ?_)))
  refine wpS_call (codeS_of_tree rfl ?_)
  show wpS _ _ (do checkBuiltinCall "bytearray.__init__" ⟨[.ref a, .int (n : Int) t], []⟩; again (.builtin "bytearray.__init__" ⟨[.ref a, .int (n : Int) t], []⟩)) _ _ _
  refine wpS_first (ba_slot.check _ _ _ _ _ _ _ _ hT ba_args ?_)
  refine wpS_pure ⟨Code.quiet_builtin _ (by decide +kernel), codeS_builtin rfl ba_entry ?_⟩
  unfold Builtin.«bytearray.__init__»
  dsimp only
  unfold Builtin.Bytes.ownRelease Builtin.Bytes.slotIsOwn
  refine wpS_first (wpAny_bind (wpAny_bind (wpAny_specialOf hT ba_lrel ?_)))
  dsimp only
  rw [if_neg (by decide +kernel)]
  refine wpAny_isInstance (T := "bytearray") (U := "bytearray.__release_buffer__".dropRight ("__release_buffer__".length + 1)) hT (b := true) (by rw [show "bytearray.__release_buffer__".dropRight ("__release_buffer__".length + 1) = "bytearray" by decide +kernel]; exact ba_sub) (wpAny_pure ?_)
  simp only [Bool.not_true, Bool.false_eq_true, if_false]
  refine wpS_first (wpAny_of_eq ba_bind ?_)
  dsimp only
  refine wpS_first (m := Builtin.Bytes.checkCodecArg _ _ _ none) (wpAny_pure (wpS_first (m := Builtin.Bytes.checkCodecArg _ _ _ none) (wpAny_pure ?_)))
  refine wpS_bind (wpS_bind (wpS_exported (wpS_of ?_)))
  have hix := F.slot_int_index.lookup
  have hti : typeOf (.int (n : Int) t) = pure (.type "int") := rfl
  obtain ⟨hp, g, d, tk, os⟩ := s
  dsimp only at ha ⊢
  generalize Builtin.Bytes.buffer? "bytearray.__init__" (Value.int (↑n) t) true = bf
  wp_walk
  rw [if_neg (by decide)]
  refine wpS_of ?_
  refine wpAny_bind (ba_write ha (by simp) fun h1 ha1 st1 => ?_)
  have eS : asStr? (.int (n : Int) t) = pure none := by kernel_rfl
  have eI : asInt? (.int (n : Int) t) = pure (some (n : Int)) := by kernel_rfl
  with_reducible refine wpAny_bind ?_
  with_reducible refine wpAny_of_eq eS ?_
  dsimp only
  rw [if_neg (by decide), if_neg (by decide), if_neg (by decide)]
  with_reducible refine wpAny_bind ?_
  with_reducible refine wpAny_pure ?_
  with_reducible refine wpAny_bind ?_
  with_reducible refine wpAny_specialOf_val hti hix ?_
  rw [if_pos (by decide)]
  with_reducible refine wpAny_bind (wpAny_attempt ?_)
  unfold asIndex
  with_reducible refine wpAny_bind (wpAny_of_eq eI ?_)
  with_reducible refine wpAny_pure ?_
  dsimp only
  have p63 : (2 : Int) ^ 63 = 9223372036854775808 := by decide +kernel
  have c1 : Builtin.Bytes.fitsIndex (n : Int) = true := by
    unfold Builtin.Bytes.fitsIndex
    rw [p63]
    simp only [Bool.and_eq_true, decide_eq_true_eq]
    omega
  have c2 : ¬ ((n : Int) < 0) := by omega
  have c3 : ((n : Int) == 2 ^ 63 - 1) = false := by
    rw [p63]
    simp only [beq_eq_false_iff_ne, ne_eq]
    omega
  have c4 : Builtin.Bytes.tooLong (n : Int).toNat = false := by
    show Builtin.Bytes.tooLong n = false
    unfold Builtin.Bytes.tooLong
    exact decide_eq_false (Nat.not_lt.mpr (Nat.le_trans _hn (by decide)))
  have c5 : (n : Int) > 0 := by omega
  rw [c1, if_neg (by decide), if_neg c2, c3, if_neg (by decide), c4, if_neg (by decide)]
  refine wpAny_bind (wpAny_rule ?_)
  rw [if_pos c5]
  have c6 : (Array.replicate n (0 : UInt8)).size ≤ 20 := by rw [Array.size_replicate]; exact _hn
  refine wpAny_bind (ba_write ha1 c6 fun h2 ha2 st2 => ?_)
  refine wpAny_pure ⟨_, rfl, ?_⟩
  dsimp only
  refine wpS_pure ?_
  dsimp only
  rw [if_neg (by simp)]
  refine wpS_pure ⟨_, rfl, ?_⟩
  refine _h a h2 (fun b o e => ?_) ha2 hn
  have ne : b ≠ a := fun q => by rw [q] at e; rw [hn] at e; cases e
  exact st2.extBut b o ne (st1.extBut b o ne (st b o e))
end Mine
end
section
open PySem PySem.W PySem.W.X PySem.Calls PyProof.Rows
namespace Mine
set_option maxRecDepth 100000
set_option maxHeartbeats 8000000
theorem ba_sslot : Slot "bytearray" "__setitem__" "bytearray.__setitem__" := Slot.of (owner := "bytearray") (n := "__setitem__") (by rw [typeLookup_type, builtinLookup_eq_fast]; kernel_rfl) (by decide +kernel) (by decide +kernel) (by decide +kernel) (.inl (by decide +kernel)) ba_sub
theorem ba_sentry : entryFor table "bytearray.__setitem__" = some Builtin.«bytearray.__setitem__» := entryFor_of_tree (by kernel_rfl)
theorem ba_sargs {a : Addr} {n k : Int} {t u : Tok} : argsOk "bytearray.__setitem__" ⟨[.ref a, .int n t, .int k u], []⟩ := by kernel_rfl
theorem int_idx {n : Int} {t : Tok} : asIndex (.int n t) = pure n := by kernel_rfl
theorem fits20 {i : Int} (h0 : 0 ≤ i) (h : i < 1000) : Builtin.Bytes.fitsIndex i = true := by
  have p63 : (2 : Int) ^ 63 = 9223372036854775808 := by decide +kernel
  unfold Builtin.Bytes.fitsIndex
  rw [p63]
  simp only [Bool.and_eq_true, decide_eq_true_eq]
  omega
theorem ba_set {w : World} {A : Around} {Q : Unit → Shared → Prop} {E : Value → Shared → Prop} {s : Shared} {a : Addr} {b : Array UInt8} {i v : Int} {t u : Tok}
    (ho : s.heap.get? a = some ⟨.type "bytearray", none, .bytearray b 0, #[]⟩) (hb : b.size ≤ 20) (h0 : 0 ≤ i) (hi : i < b.size) (hv0 : 0 ≤ v) (hv : v < 256)
    (h : ∀ h', h'.get? a = some ⟨.type "bytearray", none, .bytearray (b.setIfInBounds i.toNat v.toNat.toUInt8) 0, #[]⟩ → Heap.SameBut a s.heap h' → Q () { s with heap := h' }) :
    wpAny (model PySem.Challenge.rw_zn0014_01.prog w) A (setItem (.ref a) (.int i t) (.int v u)) Q E s := by
  have hT : s.TypeIs (.ref a) "bytearray" := ⟨_, ho, rfl⟩
  have hix := F.slot_int_index.lookup
  have hti : typeOf (.int i t) = pure (.type "int") := rfl
  unfold setItem
  with_reducible refine wpAny_holding ?_
  refine wpAny_bind (wpAny_sequenceKey hT (by decide) ?_)
  refine wpAny_bind (wpAny_callSpecial?_slot (name := Str.ofString "__setitem__") hT ba_sslot
    (wpAny_call_entry ba_sslot hT ba_sentry ?_ ba_sargs))
  unfold Builtin.«bytearray.__setitem__»
  dsimp only
  rw [if_neg (by decide)]
  unfold Builtin.Bytes.subscript?
  with_reducible refine wpAny_bind (wpAny_bind ?_)
  with_reducible refine wpAny_specialOf_val hti hix ?_
  rw [if_neg (by decide)]
  with_reducible refine wpAny_bind (wpAny_of_eq int_idx ?_)
  rw [fits20 h0 (by omega), if_neg (by decide)]
  with_reducible refine wpAny_pure ?_
  dsimp only
  unfold Builtin.Bytes.byteValue
  with_reducible refine wpAny_bind (wpAny_bind (wpAny_of_eq int_idx ?_))
  rw [if_neg (by simp only [Bool.or_eq_true, decide_eq_true_eq]; omega)]
  with_reducible refine wpAny_pure ?_
  unfold Builtin.Bytes.payload Builtin.Bytes.payload?
  refine wpAny_bind (wpAny_bind (wpAny_bind (wpAny_load ho ?_)))
  dsimp only
  with_reducible refine wpAny_pure ?_
  dsimp only
  with_reducible refine wpAny_pure ?_
  have hs : seqIndex? i b.size = some i.toNat := by
    have e : (if i < 0 then i + (b.size : Int) else i) = i := if_neg (by omega)
    simp only [seqIndex?, e]
    rw [if_pos (by simp only [Bool.and_eq_true, decide_eq_true_eq]; omega)]
  rw [hs]
  dsimp only
  refine wpAny_bind (ba_write ho (by rw [Array.size_setIfInBounds]; exact hb) fun h' ha' st' => ?_)
  refine wpAny_pure ⟨_, rfl, ?_⟩
  exact wpAny_pure (h h' ha' st')
local macro_rules | `(tactic| x_close) => `(tactic| assumption)
theorem ba_bytes {w : World} {A : Around} {Q E : Value → Shared → Prop} {s : Shared} {a : Addr} {b : Array UInt8} (_X : (hd.heap_1 w.params).In s.heap)
    (_ho : s.heap.get? a = some ⟨.type "bytearray", none, .bytearray b 0, #[]⟩) (_hb : b.size ≤ 20)
    (_h : Q (.bytes b s.toks) { s with toks := s.toks + 1 }) :
    wpAny (model PySem.Challenge.rw_zn0014_01.prog w) A (call (.type "bytes") [.ref a]) Q E s := by
  w_top off
  x_run
theorem news_laid {h₀ h h' : Heap} {L a : Addr} {o : Obj} {m : Str → Option Value} {news : List (Addr × Obj)} (F : Fr h₀ L h m) (N : News h₀ L h news) (st : h.StaysIn h') (ha : h'.get? a = some o) (hn : h.get? a = none) :
    Fr h₀ L h' m ∧ News h₀ L h' ((a, o) :: news) ∧ ∀ p ∈ news, p.1 ≠ a := by
  refine ⟨F.keeps st, fun p hp => ?_, fun p hp e => ?_⟩
  · rcases List.mem_cons.mp hp with rfl | hp
    · refine ⟨ha, fun (e : a = L) => ?_, ?_⟩
      · obtain ⟨oL, _, _, hL, _⟩ := F.ns
        rw [e, hL] at hn; cases hn
      · show h₀.get? a = none
        cases e : h₀.get? a with
        | none => rfl
        | some o => rw [F.keep _ _ e] at hn; cases hn
    · exact ⟨st _ _ (N p hp).1, (N p hp).2⟩
  · rw [← e, (N p hp).1] at hn; cases hn
section
open PyProof.Rows.LCg
variable {prog : Program} {w : World} {A : Around} {s : Shared} {h₀ : Heap} {L : Addr} {m : Str → Option Value} {E : Value → Shared → Prop}
theorem rangeC_st {I : Addr} {a c : Int} {n : Nat} : ∀ i (h h' : Heap) (o : Obj) (nw : List (Addr × Obj)), IsRangeIter h I (a + (i : Nat) * c) ((n : Int) - (i : Nat)) c → h.get? I = some o → h'.get? I = some o → (∀ b o, h₀.get? b = some o → h'.get? b = some o) → News h₀ L h' nw → True → IsRangeIter h' I (a + (i : Nat) * c) ((n : Int) - (i : Nat)) c :=
  fun i h h' o nw st e e' _ _ _ => by
    have st' : h.get? I = some _ := st
    show h'.get? I = some _
    rw [e', ← e]; exact st'
theorem it_rangeC {r : Addr} {a b c : Int} {t u v : Tok} {n : Nat} {news : List (Addr × Obj)} {Q : Value → Shared → Prop} (hh : A.handled = none) (F : Fr h₀ L s.heap m) (N : News h₀ L s.heap news)
    (hr : IsRange s.heap r a b c t u v) (hsm : Builtin.Range.small a b c = true) (hn : Builtin.Range.rangeSize a b c = ((n : Nat) : Int))
    (h : ∀ I h' St, Src prog w A h₀ L I [I] n (fun i v => ∃ t, v = .int (a + (i : Int) * c) t) St (fun _ => True) h' → Fr h₀ L h' m → News h₀ L h' news → (∀ p ∈ news, p.1 ≠ I) → Q (.ref I) { s with heap := h' }) :
    wpAny (model prog w) A (pyIter (.ref r)) Q E s := by
  refine wpAny_pyIter_range hr hsm ?_
  refine h s.heap.objs.size _ _ ⟨Walks.range hh s.heap.objs.size a c n, fun i h st => ⟨_, st⟩, rangeC_st, (by show IsRangeIter _ _ _ _ _; rw [hn]; simpa using Heap.get?_push_size _ rfl), ?_, next_is_new F, Nat.ne_of_lt F.ns.lt⟩ (F.keeps fun _ _ e => Heap.get?_push_of_some _ e) (N.grown fun _ _ e => Heap.get?_push_of_some _ e) fun p hp => Nat.ne_of_lt (Heap.lt_size (N p hp).1)
  intro b hb
  rw [List.mem_singleton.mp hb]
  show s.heap.objs.size < (s.heap.push _).objs.size
  rw [Heap.size_push]; exact Nat.lt_succ_self _
end
end Mine
end
section
open PySem PySem.W PySem.Calls PyProof.Rows PyProof.Rows.LCg
namespace Mine
set_option maxRecDepth 100000
set_option maxHeartbeats 8000000
section
local macro_rules | `(tactic| walk_at "exec For") => `(tactic| refine Stop.of ?_)
local macro_rules | `(tactic| walk_at "exec For Name Call cons nil") => `(tactic| refine Stop.of ?_)
noncomputable def mid (b : Array UInt8) (j : Nat) : Array UInt8 := Array.replicate (b.size - j) 0 ++ (b.extract 0 j).reverse
theorem mid_size {b : Array UInt8} {j : Nat} (h : j ≤ b.size) : (mid b j).size = b.size := by
  simp [mid]; omega
theorem mid_zero {b : Array UInt8} : mid b 0 = Array.replicate b.size 0 := by simp [mid]
theorem mid_end {b : Array UInt8} : mid b b.size = b.reverse := by simp [mid]
theorem set_rep {α : Type} {a c x : α} {r : List α} : ∀ {m : Nat}, (List.replicate m a ++ c :: r).set m x = List.replicate m a ++ x :: r
  | 0 => rfl
  | m + 1 => by rw [List.replicate_succ, List.cons_append, List.set_cons_succ, set_rep]; rfl
theorem mid_list {b : Array UInt8} {j : Nat} : (mid b j).toList = List.replicate (b.size - j) 0 ++ (b.toList.take j).reverse := by
  simp [mid]
theorem mid_set {b : Array UInt8} {j : Nat} (h : j < b.size) :
    (mid b j).setIfInBounds (0 + (b.size : Int) - 1 - (0 + (j : Int))).toNat ((b.toList.getD (0 + (0 + (j : Int))).toNat 0).toNat : Int).toNat.toUInt8 = mid b (j + 1) := by
  have e1 : (0 + (b.size : Int) - 1 - (0 + (j : Int))).toNat = b.size - (j + 1) := by omega
  have e2 : (0 + (0 + (j : Int))).toNat = j := by omega
  have e4 : b.size - j = (b.size - (j + 1)) + 1 := by omega
  rw [e1, e2, Int.toNat_natCast]
  have hl : j < b.toList.length := h
  have e3 : (b.toList.getD j 0).toNat.toUInt8 = b.toList[j] := by
    rw [List.getD_eq_getElem?_getD, List.getElem?_eq_getElem hl]
    simp
  rw [e3]
  refine Array.ext' ?_
  rw [Array.toList_setIfInBounds, mid_list, mid_list, e4, List.replicate_succ', List.append_assoc, List.singleton_append, set_rep, List.take_add_one, List.getElem?_eq_getElem hl, List.reverse_append]
  rfl
noncomputable abbrev swL (b : Array UInt8) (tb tn : Tok) (ba : Addr) (vi vj : Option Value) : List (Str × Option Value) := [(Str.ofString "j", vj), (Str.ofString "i", vi), (Str.ofString "swapped_data", some (.ref ba)), (Str.ofString "width", some (.int (b.size : Int) tn)), (Str.ofString "data", some (.bytes b tb))]
noncomputable abbrev swM (b : Array UInt8) (tb tn : Tok) (ba : Addr) (vi vj : Option Value) : Str → Option Value := mapOf (swL b tb tn ba vi vj)
theorem sz_n {n : Nat} (h0 : 0 < n) : Builtin.Range.rangeSize 0 (n : Int) (n : Int) = ((1 : Nat) : Int) := by
  unfold Builtin.Range.rangeSize
  rw [if_pos (by omega), if_pos (by omega), Int.ediv_eq_zero_of_lt (by omega) (by omega)]; rfl
theorem sm_n {n : Nat} (h0 : 0 < n) (h20 : n ≤ 20) : Builtin.Range.small 0 (n : Int) (n : Int) = true := by
  unfold Builtin.Range.small
  rw [sz_n h0]
  simp only [Builtin.Range.rangeFitsLong, Bool.and_eq_true, Bool.or_eq_true, decide_eq_true_eq, beq_iff_eq]
  have p63 : (2 : Int) ^ 63 = 9223372036854775808 := by decide +kernel
  rw [p63]
  rw [if_pos (by omega)]
  simp only [Bool.and_eq_true, decide_eq_true_eq]
  omega
theorem sz_1 {n : Nat} : Builtin.Range.rangeSize 0 (n : Int) 1 = ((n : Nat) : Int) := by
  rw [rangeSize_one]; split <;> omega
noncomputable def S1J (b : Array UInt8) (tb tn : Tok) (ba : Addr) (i : Nat) (m₁ : Str → Option Value) (news₁ : List (Addr × Obj)) : Prop := ∃ vi vj, m₁ = swM b tb tn ba vi vj ∧ news₁ = [(ba, ⟨.type "bytearray", none, .bytearray (mid b (i * b.size)) 0, #[]⟩)]
noncomputable def S2J (b : Array UInt8) (tb tn : Tok) (ba I : Addr) (oI : Obj) (vi : Value) (j : Nat) (m₁ : Str → Option Value) (news₁ : List (Addr × Obj)) : Prop := ∃ vj, m₁ = swM b tb tn ba (some vi) vj ∧ news₁ = [(I, oI), (ba, ⟨.type "bytearray", none, .bytearray (mid b j) 0, #[]⟩)]
noncomputable abbrev baO (b : Array UInt8) : Obj := ⟨.type "bytearray", none, .bytearray b 0, #[]⟩
theorem c_swap {w : World} {b : Array UInt8} {n : Nat} {tb tn : Tok} (hb : b.size = n) (h0 : 0 < n) (h20 : n ≤ 20) :
   ConS w 860 8600 105 [.bytes b tb, .int (n : Int) tn] (fun _ => True) (fun r tl => ∃ t, r = .bytes b.reverse t ∧ tl = []) := by
  w_top off
  intro gd outer base s tp lo mean mg mb Q E B X T hpre hret
  revert X
  k_fill
  intro X
  refine' enterPS (binds := [(Str.ofString "data", .bytes b tb), (Str.ofString "width", .int (n : Int) tn)]) B X T hret ?k6 ?k7 ?k8 ?k9 ?kL ?_ ?c2 ?c3 ?c4 ?c5
  case k6 => k_dflt k_is
  case k7 => k_dflt k_is
  case k8 => exact (by decide : (860:Nat) < recursionLimit)
  case k9 => exact BindsTo.of_eq rfl
  case kL => exact locs rfl
  case c5 => decide
  case c2 => exact rfl
  case c3 => exact rfl
  case c4 => exact rfl
  intro L' h' F N
  clear hret
  subst hb
  replace F : Fr s.heap L' h' (mapOf [(Str.ofString "width", some (.int (b.size : Int) tn)), (Str.ofString "data", some (.bytes b tb))]) := fr_lookup F rfl
  refine hideS fun RQ hRQ => ?_
  refine wpS_execs_cons (wpS_Assign_Name (wpS_Call_ ?_) rfl)
  k_steps
  refine wpS_callWith_type1 (wpS_args_cons (wpS_of ?_))
  k_steps
  refine wpS_of (args_nil ?_)
  refine ba_new (X.keeps (Fr.keep ‹Fr _ _ _ _›)) h0 h20 fun ba h1 st1 ha hn1 => ?_
  obtain ⟨F1, N1, _⟩ := news_laid ‹Fr _ _ _ _› ‹News _ _ _ _› st1 ha hn1
  k_steps
  refine wpS_of ?_
  k_steps
  unfold Stop
  refine for_ (by intro x; rfl) ?_
  k_steps
  rename_i hr hF3 hN3 hk3
  refine it_rangeC (n := 1) rfl (by k_asm) (by k_asm) hr (sm_n h0 h20) (sz_n h0) fun I g St src F1 N1 off => ?_
  replace F1 : Fr s.heap L' g (swM b tb tn ba none none) := fr_nones [Str.ofString "j", Str.ofString "i"] (l := [(Str.ofString "swapped_data", some (.ref ba)), (Str.ofString "width", some (.int (b.size : Int) tn)), (Str.ofString "data", some (.bytes b tb))]) F1 rfl rfl
  refine for_src (S1J b tb tn ba) (by rfl) (by rfl) (by rfl) src F1 N1 off trivial (by simpa using src.ne) ⟨none, none, rfl, by rw [Nat.zero_mul, mid_zero]⟩ ?_ ?_
  · intro i v m₁ news₁ oI h tk hi hP hJ F2 N2 off2 _
    refine hide fun R2 hR2 => ?_
    refine hideP fun G hG => ?_
    obtain ⟨ti, hv⟩ := hP
    obtain ⟨vi, vj, hm, hn⟩ := hJ
    obtain rfl : i = 0 := by omega
    replace hv : v = .int 0 ti := by rw [hv]; simp
    rw [Nat.zero_mul] at hn
    replace N2 : News s.heap L' h [(I, oI), (ba, baO (mid b 0))] := hn ▸ N2
    replace F2 : Fr s.heap L' h (swM b tb tn ba (some (.int 0 ti)) vj) := fr_set (l := swL b tb tn ba vi vj) (hv ▸ hm ▸ F2) rfl rfl
    have hneI : ba ≠ I := off2 (ba, baO (mid b 0)) (hn ▸ List.Mem.head _)
    refine hG ?_
    clear hG G hm hn hv off2
    k_steps
    unfold Stop
    refine for_ (by intro x; rfl) ?_
    k_steps
    rename_i hr4 hF4 hN4 hk4
    refine it_range (n := b.size) rfl (by k_asm) (by k_asm) hr4 (small_one (by decide) (by decide) (by omega) (by omega)) sz_1 fun I4 g4 St4 src4 F4 N4 off4 => ?_
    refine for_src (S2J b tb tn ba I oI (.int 0 ti)) (by rfl) (by rfl) (by rfl) src4 F4 N4 off4 trivial (by simpa using src4.ne) ⟨vj, rfl, rfl⟩ ?_ ?_
    · intro j v m₁ news₁ oI4 h tk hi4 hP hJ F5 N5 off5 _
      refine hide fun R3 hR3 => ?_
      refine hideP fun G hG => ?_
      obtain ⟨tj, hv⟩ := hP
      obtain ⟨vj, hm, hn⟩ := hJ
      replace N5 : News s.heap L' h [(I4, oI4), (I, oI), (ba, baO (mid b j))] := hn ▸ N5
      replace F5 : Fr s.heap L' h (swM b tb tn ba (some (.int 0 ti)) (some (.int (0 + (j : Int)) tj))) := fr_set (l := swL b tb tn ba (some (.int 0 ti)) vj) (hv ▸ hm ▸ F5) rfl rfl
      have hneI4 : ba ≠ I4 := off5 (ba, baO (mid b j)) (hn ▸ List.Mem.tail _ (List.Mem.head _))
      have hII4 : I ≠ I4 := off5 (I, oI) (hn ▸ List.Mem.head _)
      have hl0 : b.toList.length ≤ 1099511627776 := by rw [Array.length_toList]; omega
      have hl1 : (0 : Int) ≤ 0 + (0 + (j : Int)) := by omega
      have hl2 : (0 : Int) + (0 + (j : Int)) < (b.toList.length : Int) := by rw [Array.length_toList]; omega
      have g5 := N5 (ba, baO (mid b j)) (.tail _ (.tail _ (.head _)))
      have ms := mid_size (b := b) (j := j) (Nat.le_of_lt hi4)
      have v8 : ((b.toList.getD (0 + (0 + (j : Int))).toNat 0).toNat : Int) < 256 := by have := (b.toList.getD (0 + (0 + (j : Int))).toNat 0).toNat_lt; omega
      have mset := mid_set hi4
      have N5c := N5
      have F5c := F5
      refine hG ?_
      clear hG G hm hn hv off5
      k_steps
      refine ba_set (b := mid b j) g5.1 (by rw [ms]; exact h20) (by omega) (by rw [ms]; omega) (Int.natCast_nonneg _) v8 fun h6 g6 s6 => ?_
      rw [mset] at g6
      have N6 := News.setIn (own := [(I4, oI4), (I, oI)]) (rest := []) N5c (all_cons hneI4.symm (all_cons hneI.symm all_nil)) all_nil s6 g6
      have F6 := F5c.change s6 g5.2.1 g5.2.2
      k_steps
      refine hR3 _ _ ?_
      exact FNxt.intro F6 N6 [(I, oI), (ba, baO (mid b (j + 1)))] (fun _ h => h) (all_cons hII4 (all_cons hneI4 all_nil)) trivial ⟨_, rfl, rfl⟩
    · intro m₁ news₁ h tk hJ F7 N7 _
      refine hideP fun G hG => ?_
      obtain ⟨vj, hm, hn⟩ := hJ
      replace N7 : News s.heap L' h [(I, oI), (ba, baO (mid b b.size))] := hn ▸ N7
      replace F7 : Fr s.heap L' h (swM b tb tn ba (some (.int 0 ti)) vj) := hm ▸ F7
      have N7c := N7
      have F7c := F7
      refine hG ?_
      clear hG G hm hn
      k_steps
      refine hR2 _ _ ?_
      exact FNxt.intro F7c N7c [(ba, baO (mid b b.size))] (fun p hp => hp) (all_cons hneI all_nil) trivial ⟨_, _, rfl, by rw [Nat.zero_add, Nat.one_mul]⟩
  · intro m₁ news₁ h tk hJ F8 N8 _
    refine hideP fun G hG => ?_
    obtain ⟨vi, vj, hm, hn⟩ := hJ
    rw [Nat.one_mul, mid_end] at hn
    replace N8 : News s.heap L' h [(ba, baO b.reverse)] := hn ▸ N8
    replace F8 : Fr s.heap L' h (swM b tb tn ba vi vj) := hm ▸ F8
    have F8c := F8
    have N8c := N8
    refine hG ?_
    clear hG G hm hn
    k_steps
    refine ba_bytes (X.keeps F8c.keep) (N8c _ List.mem_cons_self).1 (by rw [Array.size_reverse]; exact h20) ?_
    exact hRQ _ _ (Back.intro F8c N8c [] all_nil ⟨_, rfl, rfl⟩)
end
end Mine
end
section
open PySem PySem.W PySem.Calls PyProof.Rows PyProof.Rows.LCg
namespace Mine
set_option maxRecDepth 100000
set_option maxHeartbeats 8000000
noncomputable def b8 (x : Int) : UInt8 := x.toNat.toUInt8
noncomputable abbrev film5 (v s : Int) (a b c d e : Nat) : Array UInt8 := #[b8 (oct v s a 0), b8 (oct v s a 1), b8 (oct v s a 2), b8 (oct v s b 0), b8 (oct v s b 1), b8 (oct v s b 2), b8 (oct v s c 0), b8 (oct v s c 1), b8 (oct v s c 2),
  b8 (oct v s d 0), b8 (oct v s d 1), b8 (oct v s d 2), b8 (oct v s e 0), b8 (oct v s e 1), b8 (oct v s e 2)]
noncomputable abbrev tupO (xs : Array Value) : Obj := ⟨.type "tuple", none, .seq xs 0, #[]⟩
noncomputable abbrev stepOf (a b : Nat) : Nat := (b + 3 - a) % 3
noncomputable abbrev mixOf (a b : Nat) : Nat := (6 - a - b) % 3
theorem b8_nat {x : Int} (h : 0 ≤ x ∧ x ≤ 160) : (b8 x).toNat = x.toNat := by
  unfold b8
  rw [Nat.toUInt8, UInt8.toNat_ofNat']
  omega
noncomputable def Entry (v s : Int) (get : Addr → Obj → Prop) (e : Str × Value) : Prop :=
  ∃ a b p t u, Wheel a ∧ Wheel b ∧ e.1 = lt v s a ++ lt v s b ∧ e.2 = .ref p ∧ get p (tupO #[.int (stepOf a b : Nat) t, .str (lt v s (mixOf a b)) u])
noncomputable def joinGo : List Nat → Int → List Nat → Int × Option Nat
  | [], plus, ks => (plus, ks.head?)
  | p :: ps, plus, ks => if stepOf (ks.getD p 0) (ks.getD (p + 1) 0) = 0 then (0, none) else
      joinGo ps (plus * (3 - 2 * (stepOf (ks.getD p 0) (ks.getD (p + 1) 0) : Nat))) ((ks.set p (mixOf (ks.getD p 0) (ks.getD (p + 1) 0))).eraseIdx (p + 1))
noncomputable def txt (v s : Int) : Option Nat → Str
  | some k => lt v s k
  | none => Str.ofString ""
noncomputable abbrev heapOf {h₀ h : Heap} {L : Addr} {n : List (Addr × Obj)} (_ : News h₀ L h n) : Heap := h
theorem ne_of_objs {h : Heap} {a b : Addr} {o o' : Obj} (ha : h.get? a = some o) (hb : h.get? b = some o') (ne : o ≠ o') : a ≠ b := fun e => by
  subst e; rw [ha] at hb; exact ne (Option.some.inj hb)
theorem isDict_cls {prog : Program} {w : World} {K : Type} [DecidableEq K] {knd : KeyKind prog w K} {o : Obj} {kvs : List (K × Value)} (h : o.IsDictOf knd kvs) : o.cls = .type "dict" := by
  obtain ⟨_, _, x, _⟩ := h
  exact x.1
theorem valueAt_map_self {K : Type} [DecidableEq K] {k : K} {v : Value} : ∀ {kvs : List (K × Value)}, (kvs.any fun kv => kv.1 = k) = true → valueAt (kvs.map fun kv => if kv.1 = k then (kv.1, v) else kv) k = some v
  | [], h => by simp at h
  | kv :: r, h => by
    by_cases e : kv.1 = k
    · simp [valueAt, e]
    · have h' : (r.any fun kv => kv.1 = k) = true := by simpa [e] using h
      have ih := valueAt_map_self (v := v) h'
      simpa [valueAt, e] using ih
theorem valueAt_stored_self {K : Type} [DecidableEq K] {k : K} {v : Value} {kvs : List (K × Value)} : valueAt (stored kvs k v) k = some v := by
  unfold stored
  split
  · next h => exact valueAt_map_self h
  · next h =>
    have : ∀ kv ∈ kvs, ¬ kv.1 = k := fun kv hm e => h (List.any_eq_true.mpr ⟨kv, hm, by simpa using e⟩)
    simp only [valueAt, List.find?_append]
    rw [List.find?_eq_none.mpr (by simpa using this)]
    simp
theorem lt_one {v s : Int} (z : (∀ k j, 0 ≤ oct v s k j ∧ oct v s k j ≤ 160) ∧ ∀ k j i, i = k → j ≠ k → oct v s k j < oct v s k i) {a a' : Nat} (wa : a < 3) (wa' : a' < 3) (h : ∀ j, j < 3 → (oct v s a j).toNat = (oct v s a' j).toNat) : a = a' := by
  refine Decidable.byContradiction fun ne => ?_
  have e : ∀ j, j < 3 → oct v s a j = oct v s a' j := fun j hj => by rw [← Int.toNat_of_nonneg (z.1 a j).1, ← Int.toNat_of_nonneg (z.1 a' j).1, h j hj]
  have l1 := z.2 a' a a' rfl ne
  have l2 := z.2 a a' a rfl (Ne.symm ne)
  rw [← e a wa, ← e a' wa'] at l1
  exact Int.lt_irrefl _ (Int.lt_trans l1 l2)
theorem lt_inj {v s : Int} (z : (∀ k j, 0 ≤ oct v s k j ∧ oct v s k j ≤ 160) ∧ ∀ k j i, i = k → j ≠ k → oct v s k j < oct v s k i) {a b a' b' : Nat} (wa : Wheel a) (wb : Wheel b) (wa' : Wheel a') (wb' : Wheel b')
    (h : lt v s a ++ lt v s b = lt v s a' ++ lt v s b') : a = a' ∧ b = b' := by
  have hc : (lt v s a ++ lt v s b).cps.toList = (lt v s a' ++ lt v s b').cps.toList := by rw [h]
  have hc' : [(oct v s a 0).toNat, (oct v s a 1).toNat, (oct v s a 2).toNat, (oct v s b 0).toNat, (oct v s b 1).toNat, (oct v s b 2).toNat] = [(oct v s a' 0).toNat, (oct v s a' 1).toNat, (oct v s a' 2).toNat, (oct v s b' 0).toNat, (oct v s b' 1).toNat, (oct v s b' 2).toNat] := hc
  have w3 : ∀ {k : Nat}, Wheel k → k < 3 := fun h => by rcases h with rfl | rfl | rfl <;> decide
  injection hc' with e0 t0
  injection t0 with e1 t1
  injection t1 with e2 t2
  injection t2 with e3 t3
  injection t3 with e4 t4
  injection t4 with e5 _
  refine ⟨lt_one z (w3 wa) (w3 wa') fun j hj => ?_, lt_one z (w3 wb) (w3 wb') fun j hj => ?_⟩
  · match j, hj with
    | 0, _ => exact e0
    | 1, _ => exact e1
    | 2, _ => exact e2
  · match j, hj with
    | 0, _ => exact e3
    | 1, _ => exact e4
    | 2, _ => exact e5
theorem mem_of_valueAt {K : Type} [DecidableEq K] {kvs : List (K × Value)} {k : K} {v : Value} (h : valueAt kvs k = some v) : (k, v) ∈ kvs := by
  unfold valueAt at h
  obtain ⟨e, he, rfl⟩ := Option.map_eq_some_iff.mp h
  have hk : e.1 = k := by simpa using List.find?_some he
  have := List.mem_of_find?_eq_some he
  rw [← hk]; exact this
theorem stored_length {K : Type} [DecidableEq K] {kvs : List (K × Value)} {k : K} {v : Value} : (stored kvs k v).length ≤ kvs.length + 1 := by
  unfold stored; split <;> simp
theorem mem_stored_new {K : Type} [DecidableEq K] {kvs : List (K × Value)} {k : K} {v : Value} {e : K × Value} (hn : valueAt kvs k = none) (he : e ∈ stored kvs k v) : e ∈ kvs ∨ e = (k, v) := by
  unfold stored at he
  split at he
  · next h =>
    obtain ⟨kv, hm, hk⟩ := List.any_eq_true.mp h
    unfold valueAt at hn
    rw [Option.map_eq_none_iff] at hn
    exact absurd hk (List.find?_eq_none.mp hn kv hm)
  · rcases List.mem_append.mp he with he | he
    · exact .inl he
    · exact .inr (List.mem_singleton.mp he)
noncomputable abbrev jmL (P D LL : Addr) (sb vb : UInt64) (ts tv : Tok) (plus : Value) (light step both place : Option Value) : List (Str × Option Value) :=
  [(Str.ofString "light", light), (Str.ofString "step", step), (Str.ofString "both", both), (Str.ofString "place", place), (Str.ofString "plus", some plus), (Str.ofString "lights", some (.ref LL)), (Str.ofString "known", some (.ref D)), (Str.ofString "level", some (.float vb tv)), (Str.ofString "share", some (.float sb ts)), (Str.ofString "places", some (.ref P))]
noncomputable abbrev JM (P D LL : Addr) (sb vb : UInt64) (ts tv : Tok) (plus : Value) (light step both place : Option Value) : Str → Option Value := mapOf (jmL P D LL sb vb ts tv plus light step both place)
inductive JJ (w : World) (v s : Int) (P D LL cell : Addr) (kvs : List (Str × Value)) (oc : Obj) (sb vb : UInt64) (ts tv : Tok) (want : Int × Option Nat) (ps : List Nat) (i : Nat) : (Str → Option Value) → List (Addr × Obj) → Prop
  | mk (ks : List Nat) (plus : Int) (tp : Tok) (tups : List (Addr × Obj)) (kvs' : List (Str × Value)) (oD' : Obj) (ys : List Value) (n : Nat) (vl vst vb' vp : Option Value) (hk1 : ks.length = 5 - i) (hk2 : ∀ k ∈ ks, Wheel k) (hplus : plus = 1 ∨ plus = -1) (hwant : want = joinGo (ps.drop i) plus ks)
    (hd : oD'.IsDictOf (strKind PySem.Challenge.rw_zn0014_01.prog w) kvs') (hlen : kvs'.length ≤ kvs.length + i) (hent : ∀ e ∈ kvs', e ∈ kvs ∨ Entry v s (fun p o => (p, o) ∈ tups) e) (hys : ys.map nt = ks.map (fun k => Value.str (lt v s k) 0)) (htups : ∀ p ∈ tups, p.1 ≠ D ∧ p.1 ≠ LL) :
    JJ w v s P D LL cell kvs oc sb vb ts tv want ps i (JM P D LL sb vb ts tv (.int plus tp) vl vst vb' vp) ((LL, listOf ys.toArray n) :: (cell, oc) :: (D, oD') :: tups)
theorem upd_of {d : Addr} {o o' : Obj} : ∀ {pre post : List (Addr × Obj)}, (∀ p ∈ pre, p.1 ≠ d) → (∀ p ∈ post, p.1 ≠ d) → Upd d o o' (pre ++ (d, o) :: post) (pre ++ (d, o') :: post)
  | [], _, _, h => .head h
  | p :: pre, _, h, h' => .tail (h p (.head _)) (upd_of (fun q hq => h q (.tail _ hq)) h')
theorem setL_of : ∀ {l : List Value} {k : Nat} {v : Value}, k < l.length → ki_setL l k v = some (l.set k v)
  | [], _, _, h => absurd h (Nat.not_lt_zero _)
  | x :: r, 0, v, _ => rfl
  | x :: r, k + 1, v, h => by unfold ki_setL; rw [setL_of (l := r) (k := k) (Nat.lt_of_succ_lt_succ h)]; rfl
theorem delL_of : ∀ {l : List Value} {k : Nat}, k < l.length → ki_delL l k = some (l.eraseIdx k)
  | [], _, h => absurd h (Nat.not_lt_zero _)
  | x :: r, 0, _ => rfl
  | x :: r, k + 1, h => by unfold ki_delL; rw [delL_of (l := r) (k := k) (Nat.lt_of_succ_lt_succ h)]; rfl
theorem nt_at {v s : Int} {ks : List Nat} {ys : List Value} (h : ys.map nt = ks.map fun k => Value.str (lt v s k) 0) {j : Nat} (hj : j < ks.length) : ∃ u, ys[j]? = some (.str (lt v s (ks.getD j 0)) u) := by
  have hl : ys.length = ks.length := by simpa using congrArg List.length h
  have e := congrArg (fun l => l[j]?) h
  simp only [List.getElem?_map, List.getElem?_eq_getElem hj, List.getElem?_eq_getElem (show j < ys.length by omega), Option.map_some, Option.some.injEq] at e
  obtain ⟨u, hu⟩ := nt_str e
  refine ⟨u, ?_⟩
  rw [List.getElem?_eq_getElem (show j < ys.length by omega), hu, List.getD_eq_getElem?_getD, List.getElem?_eq_getElem hj]; rfl
theorem getD_mem {ks : List Nat} {j : Nat} (hj : j < ks.length) : ks.getD j 0 ∈ ks := by
  rw [List.getD_eq_getElem?_getD, List.getElem?_eq_getElem hj]; exact List.getElem_mem hj
theorem place_at {p0 p1 p2 p3 i : Nat} {t0 t1 t2 t3 : Tok} {v : Value} (q0 : p0 < 4) (q1 : p1 < 3) (q2 : p2 < 2) (q3 : p3 < 1) (hi : i < 4) (h : #[Value.int p0 t0, .int p1 t1, .int p2 t2, .int p3 t3][i]? = some v) :
    ∃ (p : Nat) (t : Tok), v = .int (p : Int) t ∧ p < 4 - i ∧ [p0, p1, p2, p3].drop i = p :: [p0, p1, p2, p3].drop (i + 1) := by
  rcases (show i = 0 ∨ i = 1 ∨ i = 2 ∨ i = 3 by omega) with rfl | rfl | rfl | rfl
  · exact ⟨p0, t0, (Option.some.inj h).symm, q0, rfl⟩
  · exact ⟨p1, t1, (Option.some.inj h).symm, q1, rfl⟩
  · exact ⟨p2, t2, (Option.some.inj h).symm, q2, rfl⟩
  · exact ⟨p3, t3, (Option.some.inj h).symm, q3, rfl⟩
theorem ks_len {ks : List Nat} {p m i : Nat} (h : ks.length = 5 - i) (hp : p + 1 < ks.length) : ((ks.set p m).eraseIdx (p + 1)).length = 5 - (i + 1) := by
  rw [List.length_eraseIdx_of_lt (by rw [List.length_set]; exact hp), List.length_set]; omega
theorem ks_wheel {ks : List Nat} {p m q : Nat} (h : ∀ k ∈ ks, Wheel k) (hm : Wheel m) : ∀ k ∈ (ks.set p m).eraseIdx q, Wheel k := fun k hk => by
  rcases List.mem_or_eq_of_mem_set (List.mem_of_mem_eraseIdx hk) with h' | rfl
  · exact h k h'
  · exact hm
theorem ys_step {v s : Int} {ks : List Nat} {ys : List Value} {p q m : Nat} {u : Tok} (h : ys.map nt = ks.map fun k => Value.str (lt v s k) 0) :
    ((ys.set p (.str (lt v s m) u)).eraseIdx q).map nt = ((ks.set p m).eraseIdx q).map fun k => Value.str (lt v s k) 0 := by
  rw [List.eraseIdx_eq_take_drop_succ, List.eraseIdx_eq_take_drop_succ, List.map_append, List.map_append, List.map_take, List.map_drop, List.map_take, List.map_drop, List.map_set, List.map_set, h]; rfl
theorem mix_wheel (a b : Nat) : Wheel (mixOf a b) := by unfold Wheel mixOf; omega
theorem plus_step {plus : Int} {a b : Nat} (h : plus = 1 ∨ plus = -1) (st : ¬ stepOf a b = 0) : plus * (3 - 2 * (stepOf a b : Nat)) = 1 ∨ plus * (3 - 2 * (stepOf a b : Nat)) = -1 := by
  have : stepOf a b = 1 ∨ stepOf a b = 2 := by unfold stepOf at *; omega
  rcases this with e | e <;> rw [e] <;> rcases h with rfl | rfl <;> decide
theorem go_step {ps rest ks : List Nat} {p a b : Nat} {plus : Int} {want : Int × Option Nat} (hw : want = joinGo ps plus ks) (hd : ps = p :: rest) (ha : ks.getD p 0 = a) (hb : ks.getD (p + 1) 0 = b) (st : ¬ stepOf a b = 0) :
    want = joinGo rest (plus * (3 - 2 * (stepOf a b : Nat))) ((ks.set p (mixOf a b)).eraseIdx (p + 1)) := by
  subst ha hb
  rw [hw, hd, joinGo, if_neg st]
theorem go_stop {ps rest ks : List Nat} {p a b : Nat} {plus : Int} {want : Int × Option Nat} (hw : want = joinGo ps plus ks) (hd : ps = p :: rest) (ha : ks.getD p 0 = a) (hb : ks.getD (p + 1) 0 = b) (st : stepOf a b = 0) :
    want = (0, none) := by
  subst ha hb
  rw [hw, hd, joinGo, if_pos st]
theorem one_ks {ks : List Nat} (h : ks.length = 5 - 4) : ∃ a, ks = [a] := by
  match ks, h with
  | [a], _ => exact ⟨a, rfl⟩
theorem one_ys {v s : Int} {a : Nat} {ys : List Value} (h : ys.map nt = [a].map fun k => Value.str (lt v s k) 0) : ∃ u, ys = [.str (lt v s a) u] := by
  obtain ⟨y, r, rfl, h1, h2⟩ := List.map_eq_cons_iff.mp h
  obtain rfl := List.map_eq_nil_iff.mp h2
  obtain ⟨u, rfl⟩ := nt_str h1
  exact ⟨u, rfl⟩
theorem backJ {hb : Heap} {D : Addr} {s : Shared} {P : Value → Obj → List (Addr × Obj) → Prop} {L : Addr} {m : Str → Option Value} {oD' o : Obj} {all tups : List (Addr × Obj)} {h' : Heap} {tk' : Nat} {r : Addr} (F : Fr hb L h' m) (N : News hb L h' all) (hD : (D, oD') ∈ all)
    (hr : (r, o) ∈ all) (hro : o.cls = .type "tuple") (hDo : oD'.cls = .type "dict") (ht : ∀ p ∈ tups, p ∈ all ∧ p.1 ≠ D) (hp : P (.ref r) oD' ((r, o) :: tups)) : BackM hb D s P (.ref r) { s with heap := h', toks := tk' } :=
  BackM.intro F N hD ((r, o) :: tups) (fun p hp => by
    rcases List.mem_cons.mp hp with rfl | hp
    · exact ⟨hr, ne_of_objs (N _ hr).1 (N _ hD).1 fun e => by have c := hro.symm.trans ((congrArg Obj.cls e).trans hDo); injection c with c; exact absurd c (by decide)⟩
    · exact ht p hp) hp
theorem film_pick {v s : Int} {k0 k1 k2 k3 k4 i : Nat} (hi : i < 5) : KBy.picked (film5 v s k0 k1 k2 k3 k4) (some (3 * (0 + (i : Int)))) (some (3 * (0 + (i : Int)) + 3)) = #[b8 (oct v s ([k0, k1, k2, k3, k4].getD i 0) 0), b8 (oct v s ([k0, k1, k2, k3, k4].getD i 0) 1), b8 (oct v s ([k0, k1, k2, k3, k4].getD i 0) 2)] := by
  rcases (show i = 0 ∨ i = 1 ∨ i = 2 ∨ i = 3 ∨ i = 4 by omega) with rfl | rfl | rfl | rfl | rfl <;> rfl
theorem light_at {v s : Int} {ks : List Nat} {i : Nat} {t : Tok} (hi : i < ks.length) : some (nt (.str ⟨#[(oct v s (ks.getD i 0) 0).toNat, (oct v s (ks.getD i 0) 1).toNat, (oct v s (ks.getD i 0) 2).toNat]⟩ t)) = (ks.map fun k => Value.str (lt v s k) 0)[i]? := by
  rw [List.getElem?_map, List.getElem?_eq_getElem hi, List.getD_eq_getElem?_getD, List.getElem?_eq_getElem hi]; rfl
theorem fits_succ {p : Nat} (h : p < 4) : Builtin.List.listFitsIndex ((p : Int) + 1) = true := by
  unfold Builtin.List.listFitsIndex; simp only [Bool.and_eq_true, decide_eq_true_eq]; omega
theorem seq_at {p n : Nat} (h : p + 1 < n) : seqIndex? ((p : Int) + 1) n = some (p + 1) := by
  unfold seqIndex?; simp only [show ¬ ((p : Int) + 1 < 0) by omega, if_false]; rw [if_pos (by simp only [Bool.and_eq_true, decide_eq_true_eq]; omega)]; congr 1
theorem at_natK {xs : List Value} {x : Nat} {v : Value} (h : xs[x]? = some v) : xs.toArray[((x : Nat) : Int).toNat]? = some v := by simpa using h
theorem at_nat1K {xs : List Value} {x : Nat} {v : Value} (h : xs[x + 1]? = some v) : xs.toArray[(((x : Nat) : Int) + 1).toNat]? = some v := by
  rw [show (((x : Nat) : Int) + 1).toNat = x + 1 by omega]; simpa using h
noncomputable def JoinPost (w : World) (v s : Int) (kvs : List (Str × Value)) (want : Int × Option Nat) (r : Value) (oD' : Obj) (tl : List (Addr × Obj)) : Prop :=
  (∃ p t u, r = .ref p ∧ (p, tupO #[.int want.1 t, .str (txt v s want.2) u]) ∈ tl) ∧
       ∃ kvs', oD'.IsDictOf (strKind PySem.Challenge.rw_zn0014_01.prog w) kvs' ∧ kvs'.length ≤ kvs.length + 4 ∧ ∀ e ∈ kvs', e ∈ kvs ∨ Entry v s (fun p o => (p, o) ∈ tl) e
theorem Entry.mono {v s : Int} {get get' : Addr → Obj → Prop} {e : Str × Value} (h : Entry v s get e) (hg : ∀ a o, get a o → get' a o) : Entry v s get' e := by
  obtain ⟨a, b, p, t, u, h1, h2, h3, h4, h5⟩ := h
  exact ⟨a, b, p, t, u, h1, h2, h3, h4, hg _ _ h5⟩
theorem ent_mono {v s : Int} {kvs : List (Str × Value)} {get get' : Addr → Obj → Prop} {e : Str × Value} (h : e ∈ kvs ∨ Entry v s get e) (hg : ∀ a o, get a o → get' a o) : e ∈ kvs ∨ Entry v s get' e := by
  rcases h with h | ⟨a', b', p9, t9, u9, wa', wb', hkey, hv9, hget⟩
  · exact .inl h
  · exact .inr ⟨a', b', p9, t9, u9, wa', wb', hkey, hv9, hg _ _ hget⟩
theorem ent_at {v s : Int} {a b : Nat} {kvs kvs' : List (Str × Value)} {g1 get : Addr → Obj → Prop} {x : Value} (z : (∀ k j, 0 ≤ oct v s k j ∧ oct v s k j ≤ 160) ∧ ∀ k j i, i = k → j ≠ k → oct v s k j < oct v s k i) (wa : Wheel a) (wb : Wheel b) (hval : valueAt kvs' (lt v s a ++ lt v s b) = some x)
    (hent' : ∀ e ∈ kvs', e ∈ kvs ∨ Entry v s g1 e) (hent : ∀ e ∈ kvs, Entry v s get e) (hg : ∀ a o, g1 a o → get a o) :
    ∃ p9 t9 u9, x = .ref p9 ∧ get p9 (tupO #[.int ((stepOf a b : Nat) : Int) t9, .str (lt v s (mixOf a b)) u9]) := by
  have key : Entry v s get (lt v s a ++ lt v s b, x) := by
    rcases ent_mono (hent' _ (mem_of_valueAt hval)) hg with h | h
    · exact hent _ h
    · exact h
  obtain ⟨a', b', p9, t9, u9, wa', wb', hkey, hv9, hget⟩ := key
  obtain ⟨rfl, rfl⟩ := lt_inj z wa wb wa' wb' hkey
  exact ⟨p9, t9, u9, hv9, hget⟩
section
local macro_rules | `(tactic| walk_at "exec If") => `(tactic| refine Stop.of ?_)
local macro_rules | `(tactic| walk_at "eval ListComp") => `(tactic| refine Stop.of ?_)
local macro_rules | `(tactic| walk_at "call ref") => `(tactic| refine stopAt [117, 127, 49] (by decide) ?_)
local macro_rules | `(tactic| walk_at "exec Assign cons ListComp") => `(tactic| refine Stop.of ?_)
local macro_rules | `(tactic| walk_at "compareOp NotIn str ref") => `(tactic| refine Stop.of ?_)
local macro_rules | `(tactic| walk_at "subscriptTail Name Name ref str") => `(tactic| refine Stop.of ?_)
local macro_rules | `(tactic| walk_at "subscriptTail Name Name ref int") => `(tactic| refine Stop.of ?_)
local macro_rules | `(tactic| walk_at "subscriptTail Name BinOp ref int") => `(tactic| refine Stop.of ?_)
local macro_rules | `(tactic| walk_at "setItem ref str") => `(tactic| refine Stop.of ?_)
local macro_rules | `(tactic| walk_at "setItem ref int") => `(tactic| refine Stop.of ?_)
local macro_rules | `(tactic| walk_at "delItem ref int") => `(tactic| refine Stop.of ?_)
local macro_rules | `(tactic| walk_at "exec For") => `(tactic| refine Stop.of ?_)
theorem c_joined {w : World} {vi si : Int} {k0 k1 k2 k3 k4 p0 p1 p2 p3 : Nat} {sb vb : UInt64} {tb ts tv : Tok} {P D : Addr} {kvs : List (Str × Value)} (h0 : Wheel k0) (h1 : Wheel k1) (h2 : Wheel k2) (h3 : Wheel k3) (h4 : Wheel k4)
   (q0 : p0 < 4) (q1 : p1 < 3) (q2 : p2 < 2) (q3 : p3 < 1) (hs : QBits sb si) (hv : QBits vb vi) :
   ConM w 840 8400 132 [.bytes (film5 vi si k0 k1 k2 k3 k4) tb, .ref P, .float sb ts, .float vb tv, .ref D] D
     (fun hb oD => (∃ t0 t1 t2 t3 n, hb.get? P = some ⟨.type "list", none, .seq #[.int p0 t0, .int p1 t1, .int p2 t2, .int p3 t3] n, #[]⟩) ∧ (D == sysModules) = false ∧ oD.IsDictOf (strKind PySem.Challenge.rw_zn0014_01.prog w) kvs ∧ kvs.length ≤ 10000 ∧
       ∀ e ∈ kvs, Entry vi si (fun p o => hb.get? p = some o) e)
     (JoinPost w vi si kvs (joinGo [p0, p1, p2, p3] 1 [k0, k1, k2, k3, k4])) := by
  w_top off
  intro gd outer base hb s tp lo mean mg mb Q E oD hbD hbne hbz B X T hoD hpre hret
  obtain ⟨⟨t0, t1, t2, t3, n, hP⟩, hsys, hdict, hlen, hent⟩ := hpre
  revert X
  k_fill
  intro X
  refine' enterM (binds := [(Str.ofString "film", .bytes (film5 vi si k0 k1 k2 k3 k4) tb), (Str.ofString "places", .ref P), (Str.ofString "share", .float sb ts), (Str.ofString "level", .float vb tv), (Str.ofString "known", .ref D)]) hbD hbne hbz B X T hoD hret ?k6 ?k7 ?k8 ?k9 ?kB ?kD ?_ ?c2 ?c3 ?c4
  case k6 => k_dflt k_is
  case k7 => k_dflt k_is
  case k8 => exact (by decide : (840:Nat) < recursionLimit)
  case k9 => exact BindsTo.of_eq rfl
  case kB => exact rfl
  case kD => decide +kernel
  case c2 => exact rfl
  case c3 => exact rfl
  case c4 => exact rfl
  intro L' h' tk cells F N cne Y
  clear hret
  refine hide fun R hR => ?_
  refine hideP fun G hG => ?_
  have z := oct_facts (quarter_of hv) (quarter_of hs)
  have habove := F.above
  obtain ⟨oc, rfl, dc⟩ := CellsAre.one Y
  refine hG ?_
  clear hG G
  have nDc : L' + 1 ≠ D := cne (L' + 1, oc) (.head _)
  replace dc : oc.data = .cell (some (.bytes (film5 vi si k0 k1 k2 k3 k4) tb)) := dc
  replace F : Fr hb L' h' (fun y => if y = Str.ofString "known" then some (Value.ref D) else if y = Str.ofString "level" then some (Value.float vb tv) else if y = Str.ofString "share" then some (Value.float sb ts) else if y = Str.ofString "places" then some (Value.ref P) else none) := F
  replace N := show News hb L' h' [(L' + 1, oc), (D, oD)] from N
  clear Y cne
  k_steps
  unfold Stop
  refine hide fun R1 hR1 => ?_
  obtain ⟨m1, hm1⟩ : ∃ m, m = (fun y => if y = Str.ofString "known" then some (Value.ref D) else if y = Str.ofString "level" then some (Value.float vb tv) else if y = Str.ofString "share" then some (Value.float sb ts) else if y = Str.ofString "places" then some (Value.ref P) else none) := ⟨_, rfl⟩
  replace F := show Fr hb L' h' m1 from hm1 ▸ F
  k_dflt (refine lcA (L := L') (m := m1) (h₀ := hb) (by rfl) (by rfl) (by rfl) (by decide) (by rfl) (by decide) (by rfl) (by rfl) (by rfl) (by intro _; rfl) ?_)
  k_steps
  rename_i hr hF3 hN3 hk3
  refine it_range (n := 5) rfl (by k_asm) (by k_asm) hr (small_one (by decide) (by decide) (by decide) (by decide)) (by rfl) fun I g St src F1 N1 off => lc_map ([k0, k1, k2, k3, k4].map fun k => .str (lt vi si k) 0) (by rfl) (by decide) rfl src F1 N1 off trivial ?_ ?_
  · intro C DD i v ys oI oC h tk hi hP hC F2 N2
    refine hideP fun G hG => ?_
    obtain ⟨ti, hv'⟩ := hP
    obtain ⟨u, hC1, hC2⟩ := hC
    replace hC2 := hC2.trans (congrArg some hv')
    refine hG ?_
    clear hG G hv'
    refine hide fun R2 hR2 => ?_
    k_steps
    refine KBc.slice_K (s := ⟨_, _, _, _, _⟩) (by k_asm) (by k_asm) rfl (by constructor) (by constructor) (by rw [KBw.ints_length]; exact (by decide : 15 ≤ 16777216)) ?_
    intro h5 t5 k5 F5 N5 _
    rw [film_pick hi]
    k_steps
    unfold Stop
    refine' useCon (c_textB (a := b8 (oct vi si ([k0, k1, k2, k3, k4].getD i 0) 0)) (b := b8 (oct vi si ([k0, k1, k2, k3, k4].getD i 0) 1)) (c := b8 (oct vi si ([k0, k1, k2, k3, k4].getD i 0) 2))) ?kB ?kF ?kX ?kN ?kT rfl rfl ?kd ?ku ?kp ?_
    case kB => k_asm
    case kF => k_asm
    case kX => k_asm
    case kN => k_asm
    case kT => k_asm
    case kd => decide
    case ku => decide
    case kp => trivial
    rintro r tl h6 tk6 F6 N6 lt6 st6 ⟨⟨x, rfl⟩, rfl⟩
    k_steps
    refine hR2 _ _ (MapEnd.intro (by k_asm) (by k_asm) (fun _ h => h) ?_)
    rw [b8_nat (z.1 _ _), b8_nat (z.1 _ _), b8_nat (z.1 _ _)]
    exact light_at hi
  · intro ys0 hys0 LL h tk F4 N4 off4
    refine hR1 _ _ ?_
    clear hR1 R1
    replace F4 := show Fr hb L' h (fun y => if y = Str.ofString "lights" then some (Value.ref LL) else if y = Str.ofString "known" then some (Value.ref D) else if y = Str.ofString "level" then some (Value.float vb tv) else if y = Str.ofString "share" then some (Value.float sb ts) else if y = Str.ofString "places" then some (Value.ref P) else none) from fr_in hm1 F4
    clear hm1 F1 N1 off src hF3 hN3 hr hk3 St
    k_steps
    unfold Stop
    refine for_ (by intro x; rfl) ?_
    k_steps
    refine it_list rfl (by k_asm) (by k_asm) (.inl ⟨_, hP, rfl, _, rfl⟩) fun I2 g4 St2 src2 F5 N5 off5 => ?_
    replace F5 : Fr hb L' _ (JM P D LL sb vb ts tv (.int 1 tk) none none none none) := fr_nones [Str.ofString "light", Str.ofString "step", Str.ofString "both", Str.ofString "place"] (l := [(Str.ofString "plus", some (.int 1 tk)), (Str.ofString "lights", some (.ref LL)), (Str.ofString "known", some (.ref D)), (Str.ofString "level", some (.float vb tv)), (Str.ofString "share", some (.float sb ts)), (Str.ofString "places", some (.ref P))]) F5 rfl rfl
    refine for_src (fun i m₁ news₁ => JJ w vi si P D LL (L' + 1) kvs oc sb vb ts tv (joinGo [p0, p1, p2, p3] 1 [k0, k1, k2, k3, k4]) [p0, p1, p2, p3] i m₁ news₁)
      (by rfl) (by rfl) (by rfl) src2 F5 N5 off5 (.inl ⟨_, hP, rfl, _, rfl⟩) ?nf ?j0 ?step ?done
    case nf => simpa using ⟨src2.ne, fun e => by have := Heap.lt_size hP; rw [← e] at this; exact absurd habove (Nat.not_le.mpr this)⟩
    case j0 => exact ⟨[k0, k1, k2, k3, k4], 1, tk, [], kvs, oD, ys0, ys0.length, none, none, none, none, rfl, all_cons h0 (all_cons h1 (all_cons h2 (all_cons h3 (all_cons h4 all_nil)))), .inl rfl, rfl, hdict, Nat.le_refl _, fun e he => .inl he, hys0, fun _ h => nomatch h⟩
    case step =>
      intro i v m₁ news₁ oI h tk hi hiv hJ F6 N6 off6 hS6
      clear hys0 F5 N5 off5 src2 off4
      refine hide fun R2 hR2 => ?_
      refine hideP fun G hG => ?_
      obtain ⟨ks, plus, tp, tups, kvs', oD', ys, n, vl, vst, vb', vp, hk1, hk2, hplus, hwant, hdict', hlen', hent', hys', htups⟩ := hJ
      have hi4 : i < 4 := hi
      obtain ⟨p, tpl, hv1, hp, hdrop⟩ := place_at q0 q1 q2 q3 hi4 hiv
      have hyl : ys.length = 5 - i := by have e := congrArg List.length hys'; rw [List.length_map, List.length_map] at e; rw [e, hk1]
      have hp1 : p < ks.length := by omega
      have hp2 : p + 1 < ks.length := by omega
      obtain ⟨ua, hya⟩ := nt_at hys' hp1
      obtain ⟨ub, hyb⟩ := nt_at hys' hp2
      have wa := hk2 _ (getD_mem hp1)
      have wb := hk2 _ (getD_mem hp2)
      have gLL := (N6 _ (List.mem_cons_of_mem _ List.mem_cons_self)).1
      have x1 : @Ne Nat LL I2 := fun e => off6 _ List.mem_cons_self e
      have x2 : @Ne Nat LL D := ne_of_objs gLL (N6 (D, oD') (.tail _ (.tail _ (.tail _ (.head _))))).1 (fun e => by have c := (congrArg Obj.cls e).trans (isDict_cls hdict'); injection c with c; exact absurd c (by decide))
      have x3 : @Ne Nat LL (L' + 1) := ne_of_objs gLL (N6 (L' + 1, oc) (.tail _ (.tail _ (.head _)))).1 (fun e => by have c := (congrArg Obj.data e).trans dc; cases c)
      have nDI : I2 ≠ D := fun e => off6 (D, oD') (.tail _ (.tail _ (.head _))) e.symm
      have offT : ∀ q ∈ tups, q.1 ≠ D ∧ q.1 ≠ LL ∧ q.1 ≠ I2 := fun q hq => ⟨(htups q hq).1, (htups q hq).2, off6 q (.tail _ (.tail _ (.tail _ hq)))⟩
      replace F6 : Fr hb L' h (JM P D LL sb vb ts tv (.int plus tp) vl vst vb' (some (.int (p : Int) tpl))) := fr_set (hv1 ▸ F6) rfl rfl
      refine hG ?_
      clear hG G hv1 hiv htups
      generalize ha : ks.getD p 0 = a at hya wa
      generalize hb' : ks.getD (p + 1) 0 = b at hyb wb
      k_steps
      unfold Stop
      refine tail_any (PySem.IsL.isList gLL).typeIs slot_list_getitem.lookup (wpAny_getItem_list (PySem.IsL.isList gLL) (by omega) (by omega) (at_natK hya) ?_) (by with_unfolding_all rfl)
      k_steps
      unfold Stop
      refine tail_any (PySem.IsL.isList gLL).typeIs slot_list_getitem.lookup (wpAny_getItem_list (PySem.IsL.isList gLL) (by omega) (by omega) (at_nat1K hyb) ?_) (by with_unfolding_all rfl)
      k_steps
      unfold Stop
      refine hide fun R3 hR3 => ?_
      refine' useCon (c_concat (x := lt vi si a) (y := lt vi si b) rfl rfl) ?kB ?kF ?kX ?kN ?kT rfl rfl ?kd ?ku ?kp ?_
      case kB => k_asm
      case kF => k_asm
      case kX => k_asm
      case kN => k_asm
      case kT => k_asm
      case kd => decide
      case ku => decide
      case kp => trivial
      rintro r tl h7 tk7 F7 N7 lt7 st7 ⟨tbo, rfl, rfl⟩
      have hxl : (lt vi si a ++ lt vi si b).length = 6 := rfl
      have e1 : Txt.slice (lt vi si a ++ lt vi si b) none (some 3) = lt vi si a := rfl
      have e2 : Txt.slice (lt vi si a ++ lt vi si b) (some 3) none = lt vi si b := by rw [slice_from_eq (b := 6) (by decide) (by show (3 : Int) ≤ ((6 : Nat) : Int); decide) rfl]; rfl
      refine hR3 _ _ ?_
      clear hR3 R3 lt7 st7
      replace N7 := show News hb L' h7 ((I2, oI) :: (LL, listOf ys.toArray n) :: (L' + 1, oc) :: (D, oD') :: tups) from N7
      generalize hxy : lt vi si a ++ lt vi si b = xy at hxl e1 e2 ⊢
      k_steps
      unfold Stop
      rename_i h8 F8 N8
      replace F8 : Fr hb L' h8 (JM P D LL sb vb ts tv (.int plus tp) vl vst (some (.str xy tbo)) (some (.int (p : Int) tpl))) := fr_set F8 rfl rfl
      refine hide fun R3 hR3 => ?_
      have tail : ∀ (kvs2 : List (Str × Value)) (oD2 : Obj) (tups2 : List (Addr × Obj)) (p9 : Addr) (t9 u9 : Tok) (h2 : Heap) (tk2 : Nat), oD2.IsDictOf (strKind PySem.Challenge.rw_zn0014_01.prog w) kvs2 → valueAt kvs2 xy = some (.ref p9) → kvs2.length ≤ kvs.length + (i + 1) → (∀ e ∈ kvs2, e ∈ kvs ∨ Entry vi si (fun p o => (p, o) ∈ tups2) e) →
          IsTup h2 p9 #[.int (((b + 3 - a) % 3 : Nat) : Int) t9, .str (lt vi si ((6 - a - b) % 3)) u9] → (∀ q ∈ tups2, q.1 ≠ D ∧ q.1 ≠ LL ∧ q.1 ≠ I2) →
          Fr hb L' h2 (JM P D LL sb vb ts tv (.int plus tp) vl vst (some (.str xy tbo)) (some (.int (p : Int) tpl))) → News hb L' h2 ((I2, oI) :: (LL, listOf ys.toArray n) :: (L' + 1, oc) :: (D, oD2) :: tups2) → R3 .next { s with heap := h2, toks := tk2 } := by
        clear hent' hlen' offT hdict' e1 e2
        intro kvs2 oD2 tups2 p9 t9 u9 h2 tk2 hd2 hval2 hlen2 hent2 hIT off2 F9 N9
        refine hR3 _ _ ?_
        clear hR3 R3
        have hDD := Heap.dictOf_iff.mpr ⟨oD2, show h2.get? D = some oD2 from (N9 (D, oD2) (.tail _ (.tail _ (.tail _ (.head _))))).1, hd2⟩
        have offU : ∀ q ∈ (L' + 1, oc) :: (D, oD2) :: tups2, q.1 ≠ LL := all_cons (fun e => x3 e.symm) (all_cons (fun e => x2 e.symm) fun q hq => (off2 q hq).2.1)
        have offI : ∀ q ∈ [(I2, oI)], q.1 ≠ LL := all_cons (fun e => x1 e.symm) all_nil
        k_steps
        unfold Stop
        refine tail_any hDD.typeIs slot_dict_getitem.lookup (wpAny_getItem_of (strKind_is _ _ _ _) hDD.mapOf hval2 ?_) (by with_unfolding_all rfl)
        k_steps
        unfold Stop
        refine wpAny_If ?_
        k_steps
        · have st0 : ¬ stepOf a b = 0 := by
            intro h0
            have h0' : (b + 3 - a) % 3 = 0 := h0
            first
              | omega
              | (exfalso; simp_all; done)
          unfold Stop
          k_dflt (refine' ki_set (D := LL) (n := n) (its := ys.toArray) ?kF ?kN ?k1 ?k2 ?kE ?kU ?_)
          case kF => k_asm
          case kN => k_asm
          case k1 => omega
          case k2 => omega
          case kE => exact setL_of (l := ys) (k := p) (by omega)
          case kU => exact upd_of (pre := [(I2, oI)]) offI (post := (L' + 1, oc) :: (D, oD2) :: tups2) offU
          intro hs1 FS1 NS1
          k_steps
          unfold Stop
          k_dflt (refine' ki_del (D := LL) (n := n) (its := (ys.set p _).toArray) (k := p + 1) ?kF ?kN ?kf ?kk ?kE ?kU ?kz ?_)
          case kF => k_asm
          case kN => k_asm
          case kf => exact fits_succ (by omega)
          case kk => exact seq_at (by rw [List.size_toArray, List.length_set]; omega)
          case kE => exact delL_of (l := ys.set p _) (k := p + 1) (by rw [List.length_set]; omega)
          case kU => exact upd_of (pre := [(I2, oI)]) offI (post := (L' + 1, oc) :: (D, oD2) :: tups2) offU
          case kz => show (ys.set p _).length ≤ sizeLine; rw [List.length_set, sizeLine_eq]; omega
          intro hs2 FS2 NS2
          k_steps
          refine hR2 _ _ ?_
          dsimp only [FTurn]
          rename Fr _ _ _ _ => FE
          rename News _ _ _ _ => NE
          replace FE := fr_sets (l' := jmL P D LL sb vb ts tv _ (some _) (some _) (some _) (some _)) [(Str.ofString "plus", _), (Str.ofString "light", _), (Str.ofString "step", _)] FE rfl rfl
          refine' FNxt.intro FE NE ((LL, listOf ((ys.set p (.str (lt vi si (mixOf a b)) u9)).eraseIdx (p + 1)).toArray (n + 1)) :: (L' + 1, oc) :: (D, oD2) :: tups2) (fun _ h => h) (all_cons x1 (all_cons (off6 (L' + 1, oc) (.tail _ (.head _))) (all_cons nDI.symm fun q hq => (off2 q hq).2.2))) (.inl ⟨_, hP, rfl, _, rfl⟩)
            ⟨(ks.set p (mixOf a b)).eraseIdx (p + 1), plus * (3 - 2 * (stepOf a b : Nat)), _, tups2, kvs2, oD2, (ys.set p (.str (lt vi si (mixOf a b)) u9)).eraseIdx (p + 1), n + 1, some (.str (lt vi si (mixOf a b)) u9), some (.int (stepOf a b : Nat) t9), some (.str xy tbo), some (.int (p : Int) tpl),
              ks_len hk1 hp2, ks_wheel hk2 (mix_wheel a b), plus_step hplus st0, go_step hwant hdrop ha hb' st0, hd2, hlen2, hent2, ys_step hys', fun q hq => ⟨(off2 q hq).1, (off2 q hq).2.1⟩⟩
        · refine hR2 _ _ (hR _ _ ?_)
          have st0 : stepOf a b = 0 := by
            show (b + 3 - a) % 3 = 0
            omega
          refine' backJ (oD' := oD2) (tups := tups2) ?F ?N ?hD ?hr ?hro (isDict_cls hd2) ?ht ?hp
          case F => k_asm
          case N => k_asm
          case hD => k_mem
          case hr => k_mem
          case hro => rfl
          case ht => exact fun q hq => ⟨.tail _ (.tail _ (.tail _ (.tail _ (.tail _ hq)))), (off2 q hq).1⟩
          case hp =>
            rw [go_stop hwant hdrop ha hb' st0]
            exact ⟨⟨_, _, _, rfl, List.mem_cons_self⟩, kvs2, hd2, (by omega), fun e he => ent_mono (hent2 e he) fun _ _ h => .tail _ h⟩
      have hDn := N8 (D, oD') (.tail _ (.tail _ (.tail _ (.head _))))
      have hDD := Heap.dictOf_iff.mpr ⟨oD', show h8.get? D = some oD' from hDn.1, hdict'⟩
      clear hR3 hys' hwant
      refine wpAny_If ?_
      k_steps
      unfold Stop
      refine wpAny_notIn_of (strKind_is _ _ _ _) hsys hDD.mapOf ?_
      cases hval : valueAt kvs' xy with
      | none =>
        k_steps
        rw [e1, e2]
        unfold Stop
        refine hide fun R4 hR4 => ?_
        refine' useCon (c_met wa wb hs hv) ?kB ?kF ?kX ?kN ?kT rfl rfl ?kd ?ku ?kp ?_
        case kB => k_asm
        case kF => k_asm
        case kX => k_asm
        case kN => k_asm
        case kT => k_asm
        case kd => decide
        case ku => decide
        case kp => trivial
        rintro r tl h9 tk9 F9 N9 lt9 st9 ⟨p8, t8, u8, rfl, rfl⟩
        have x7 : p8 ≠ LL := fun e => lt9 (LL, _) (.tail _ (.head _)) _ List.mem_cons_self e.symm
        have nDp : p8 ≠ D := fun e => lt9 (D, oD') (.tail _ (.tail _ (.tail _ (.head _)))) _ List.mem_cons_self e.symm
        have nIp : p8 ≠ I2 := fun e => lt9 (I2, oI) (.head _) _ List.mem_cons_self e.symm
        refine hR4 _ _ ?_
        clear hR4 R4 lt9 st9
        replace N9 := show News hb L' h9 ((p8, tupO #[.int (stepOf a b : Nat) t8, .str (lt vi si (mixOf a b)) u8]) :: (I2, oI) :: (LL, listOf ys.toArray n) :: (L' + 1, oc) :: (D, oD') :: tups) from N9
        k_steps
        unfold Stop
        have hDn2 := N9 (D, oD') (.tail _ (.tail _ (.tail _ (.tail _ (.head _)))))
        refine wpAny_setItem_pairs (strKind_is _ _ _ _) (Heap.dictOf_iff.mpr ⟨oD', show h9.get? D = some oD' from hDn2.1, hdict'⟩) (fun h10 d10 s10 => ?_) (by rw [sizeLine_eq]; omega)
        refine hideP fun G hG => ?_
        obtain ⟨o10, ho10, hd10⟩ := Heap.dictOf_iff.mp d10
        have N10 := News.setIn (own := [(p8, _), (I2, oI), (LL, _), (L' + 1, oc)]) (rest := tups) N9 (all_cons nDp (all_cons nDI (all_cons x2 (all_cons nDc all_nil)))) (fun q hq => (offT q hq).1) s10 ho10
        have F10 := F9.change s10 hDn2.2.1 hDn2.2.2
        replace N10 := show News hb L' h10 ((p8, tupO #[.int (stepOf a b : Nat) t8, .str (lt vi si (mixOf a b)) u8]) :: (I2, oI) :: (LL, listOf ys.toArray n) :: (L' + 1, oc) :: (D, o10) :: tups) from N10
        refine hG ?_
        clear hG G N9 F9 d10 s10 hDD hDn hDn2
        k_steps
        refine tail (stored kvs' xy (.ref p8)) o10 ((p8, tupO #[.int (stepOf a b : Nat) t8, .str (lt vi si (mixOf a b)) u8]) :: tups) p8 t8 u8 _ _ hd10 valueAt_stored_self (Nat.le_trans stored_length (by omega)) (fun e he => ?_) ⟨_, (N10 _ (.head _)).1, rfl, _, rfl⟩ (all_cons ⟨nDp, x7, nIp⟩ offT) F10 (News_pick N10 5 [1, 2, 3, 4, 0])
        rcases mem_stored_new hval he with he | rfl
        · exact ent_mono (hent' e he) fun _ _ h => .tail _ h
        · exact .inr ⟨a, b, p8, t8, u8, wa, wb, hxy.symm, rfl, List.mem_cons_self⟩
      | some v =>
        refine hideP fun G hG => ?_
        obtain ⟨p9, t9, u9, hv9, hget⟩ := ent_at (get := fun p o => h8.get? p = some o) z wa wb (by rw [hxy]; exact hval) hent' (fun e he => (hent e he).mono fun p o hp => F8.keep _ _ hp) fun p o hp => (N8 (p, o) (.tail _ (.tail _ (.tail _ (.tail _ hp))))).1
        replace hval : valueAt kvs' xy = some (.ref p9) := hv9 ▸ hval
        refine hG ?_
        clear hG G hv9
        simp only [Option.isSome_some, Bool.not_true]
        k_steps
        exact tail kvs' oD' tups p9 t9 u9 _ _ hdict' hval (by omega) hent' ⟨_, hget, rfl, _, rfl⟩ offT F8 N8
    case done =>
      intro m₁ news₁ h tk hJ F6 N6 hS6
      refine hideP fun G hG => ?_
      obtain ⟨ks, plus, tp, tups, kvs', oD', ys, n, vl, vst, vb', vp, hk1, hk2, hplus, hwant, hdict', hlen', hent', hys', htups⟩ := hJ
      obtain ⟨a, rfl⟩ := one_ks hk1
      obtain ⟨ua, rfl⟩ := one_ys hys'
      have hw1 : joinGo [p0, p1, p2, p3] 1 [k0, k1, k2, k3, k4] = (plus, some a) := hwant
      refine hG ?_
      clear hG G
      k_steps
      refine hR _ _ ?_
      refine' backJ (oD' := oD') (tups := tups) ?F ?N ?hD ?hr ?hro (isDict_cls hdict') ?ht ?hp
      case F => k_asm
      case N => k_asm
      case hD => k_mem
      case hr => k_mem
      case hro => rfl
      case ht => exact fun q hq => ⟨.tail _ (.tail _ (.tail _ (.tail _ hq))), (htups q hq).1⟩
      case hp =>
        rw [hw1]
        exact ⟨⟨_, _, _, rfl, List.mem_cons_self⟩, kvs', hdict', hlen', fun e he => ent_mono (hent' e he) fun _ _ h => .tail _ h⟩
end
end Mine
end
section
open PySem PySem.W PySem.Calls PyProof.Rows PyProof.Rows.LCg
namespace Mine
set_option maxRecDepth 100000
set_option maxHeartbeats 8000000
noncomputable def nums (ks : List Nat) : List Value := ks.map fun k => .int (k : Nat) 0
noncomputable def RowsIn (get : Addr → Obj → Prop) (vs : List Value) (kss : List (List Nat)) : Prop :=
  vs.length = kss.length ∧ ∀ (j : Nat) (v : Value) (ks : List Nat), vs[j]? = some v → kss[j]? = some ks → ∃ (a : Addr) (xs : List Value) (n : Nat), v = Value.ref a ∧ get a (listOf xs.toArray n) ∧ xs.map nt = nums ks
theorem RowsIn.nil {get : Addr → Obj → Prop} : RowsIn get [] [] := ⟨rfl, fun j v ks h => by cases h⟩
theorem RowsIn.mono {get get' : Addr → Obj → Prop} {vs : List Value} {kss : List (List Nat)} (h : RowsIn get vs kss) (hg : ∀ a o, get a o → get' a o) : RowsIn get' vs kss :=
  ⟨h.1, fun j v ks h1 h2 => let ⟨a, xs, n, e1, e2, e3⟩ := h.2 j v ks h1 h2; ⟨a, xs, n, e1, hg _ _ e2, e3⟩⟩
theorem RowsIn.snoc {get : Addr → Obj → Prop} {vs : List Value} {kss : List (List Nat)} {ks : List Nat} {a : Addr} {xs : List Value} {n : Nat} (h : RowsIn get vs kss) (hg : get a (listOf xs.toArray n)) (he : xs.map nt = nums ks) : RowsIn get (vs ++ [Value.ref a]) (kss ++ [ks]) := by
  refine ⟨by simp [h.1], fun j v ks' h1 h2 => ?_⟩
  rw [List.getElem?_append] at h1 h2
  rw [← h.1] at h2
  split at h1
  · next hl => rw [if_pos hl] at h2; exact h.2 j v ks' h1 h2
  · next hl =>
    rw [if_neg hl] at h2
    have : j - vs.length = 0 := by
      cases e : j - vs.length with
      | zero => rfl
      | succ k => rw [e] at h1; simp at h1
    rw [this] at h1 h2
    cases h1; cases h2
    exact ⟨a, xs, n, rfl, hg, he⟩
noncomputable def undo1 (p : Nat) (row : List Nat) (on : Nat) : List Nat := row.take p ++ [(row.getD p 0 + on) % 3, (row.getD p 0 + 3 - on) % 3] ++ row.drop (p + 1)
noncomputable def undo (p : Nat) (rows : List (List Nat)) : List (List Nat) := rows.flatMap fun row => [undo1 p row 1, undo1 p row 2]
noncomputable def undone (corner : Nat) (ps : List Nat) : List (List Nat) := ps.reverse.foldl (fun rows p => undo p rows) [[corner]]
noncomputable abbrev umL (c : Nat) (tc : Tok) (P : Addr) (rows : Value) (fresh row on two place : Option Value) : List (Str × Option Value) :=
  [(Str.ofString "fresh", fresh), (Str.ofString "row", row), (Str.ofString "on", on), (Str.ofString "two", two), (Str.ofString "place", place), (Str.ofString "rows", some rows), (Str.ofString "places", some (.ref P)), (Str.ofString "corner", some (.int (c : Nat) tc))]
noncomputable abbrev UM (c : Nat) (tc : Tok) (P : Addr) (rows : Value) (fresh row on two place : Option Value) : Str → Option Value := mapOf (umL c tc P rows fresh row on two place)
noncomputable def undoTo (c : Nat) (ps : List Nat) (i : Nat) : List (List Nat) := (ps.reverse.take i).foldl (fun rows p => undo p rows) [[c]]
noncomputable def RowsOk (i : Nat) (kss : List (List Nat)) : Prop := ∀ ks ∈ kss, ks.length = i + 1 ∧ ∀ k ∈ ks, Wheel k
theorem two_at {o : Nat} {t u : Tok} {v : Value} (ho : o < 2) (h : #[Value.int 1 t, .int 2 u][o]? = some v) : ∃ (on : Nat) (t : Tok), v = .int (on : Int) t ∧ on = o + 1 := by
  rcases (show o = 0 ∨ o = 1 by omega) with rfl | rfl
  · exact ⟨1, t, (Option.some.inj h).symm, rfl⟩
  · exact ⟨2, u, (Option.some.inj h).symm, rfl⟩
theorem num_at {ks : List Nat} {xs : List Value} (h : xs.map nt = nums ks) {j : Nat} (hj : j < ks.length) : ∃ u, xs[j]? = some (.int (ks.getD j 0 : Nat) u) := by
  have hl : xs.length = ks.length := by simpa [nums] using congrArg List.length h
  have e := congrArg (fun l => l[j]?) h
  simp only [nums, List.getElem?_map, List.getElem?_eq_getElem hj, List.getElem?_eq_getElem (show j < xs.length by omega), Option.map_some, Option.some.injEq] at e
  obtain ⟨u, hu⟩ := nt_int e
  refine ⟨u, ?_⟩
  rw [List.getElem?_eq_getElem (show j < xs.length by omega), hu, List.getD_eq_getElem?_getD, List.getElem?_eq_getElem hj]; rfl
theorem uplace {p0 p1 p2 p3 i : Nat} {t0 t1 t2 t3 : Tok} {v : Value} (q0 : p0 < 4) (q1 : p1 < 3) (q2 : p2 < 2) (q3 : p3 < 1) (hi : i < 4) (h : #[Value.int p3 t3, .int p2 t2, .int p1 t1, .int p0 t0][i]? = some v) :
    ∃ (p : Nat) (t : Tok), v = .int (p : Int) t ∧ p < i + 1 ∧ [p0, p1, p2, p3].reverse.take (i + 1) = [p0, p1, p2, p3].reverse.take i ++ [p] := by
  rcases (show i = 0 ∨ i = 1 ∨ i = 2 ∨ i = 3 by omega) with rfl | rfl | rfl | rfl
  · exact ⟨p3, t3, (Option.some.inj h).symm, q3, rfl⟩
  · exact ⟨p2, t2, (Option.some.inj h).symm, q2, rfl⟩
  · exact ⟨p1, t1, (Option.some.inj h).symm, q1, rfl⟩
  · exact ⟨p0, t0, (Option.some.inj h).symm, q0, rfl⟩
theorem row_ok {ks : List Nat} {xs : List Value} {p on kp : Nat} {t u : Tok} (hxs : xs.map nt = nums ks) (hkp : ks.getD p 0 = kp) (hk : kp < 3) (ho : on ≤ 3) :
    (xs.take p ++ [Value.int ((kp + on : Int).fmod 3) t, Value.int ((kp - on : Int).fmod 3) u] ++ xs.drop (p + 1)).map nt = nums (undo1 p ks on) := by
  have e1 : ((kp : Int) + on).fmod 3 = (((kp + on) % 3 : Nat) : Int) := by rw [Int.fmod_eq_emod_of_nonneg _ (by decide)]; omega
  have e2 : ((kp : Int) - on).fmod 3 = (((kp + 3 - on) % 3 : Nat) : Int) := by rw [Int.fmod_eq_emod_of_nonneg _ (by decide)]; omega
  rw [e1, e2, List.map_append, List.map_append, List.map_take, List.map_drop, hxs]
  unfold undo1 nums
  rw [hkp, List.map_append, List.map_append, List.map_take, List.map_drop]
  rfl
theorem take_two {a b : List Nat} {o on : Nat} (ho : o < 2) (hon : on = o + 1) {f : Nat → List Nat} (ha : a = f 1) (hb : b = f 2) : [a, b].take (o + 1) = [a, b].take o ++ [f on] := by
  subst ha hb hon
  rcases (show o = 0 ∨ o = 1 by omega) with rfl | rfl <;> rfl
theorem undo_snoc {p j : Nat} {rows : List (List Nat)} {ks : List Nat} (h : rows[j]? = some ks) : undo p (rows.take (j + 1)) = undo p (rows.take j) ++ [undo1 p ks 1, undo1 p ks 2] := by
  unfold undo
  rw [List.take_add_one, h, List.flatMap_append]
  rfl
theorem undo_length {p : Nat} : ∀ {rows : List (List Nat)}, (undo p rows).length = 2 * rows.length
  | [] => rfl
  | r :: rows => by
    have ih := undo_length (p := p) (rows := rows)
    unfold undo at ih ⊢
    rw [List.flatMap_cons, List.length_append, ih]
    simp only [List.length_cons, List.length_nil]; omega
theorem undo_ok {p i : Nat} {rows : List (List Nat)} (hp : p < i + 1) (h : RowsOk i rows) : RowsOk (i + 1) (undo p rows) := fun ks hk => by
  unfold undo at hk
  obtain ⟨row, hr, hk⟩ := List.mem_flatMap.mp hk
  obtain ⟨h1, h2⟩ := h row hr
  have go : ∀ on, ks = undo1 p row on → ks.length = i + 1 + 1 ∧ ∀ k ∈ ks, Wheel k := fun on e => by
    subst e
    unfold undo1
    refine ⟨by simp; omega, fun k hk => ?_⟩
    rcases List.mem_append.mp hk with hk | hk
    · rcases List.mem_append.mp hk with hk | hk
      · exact h2 k (List.mem_of_mem_take hk)
      · simp only [List.mem_cons, List.not_mem_nil, or_false] at hk
        unfold Wheel; omega
    · exact h2 k (List.mem_of_mem_drop hk)
  simp only [List.mem_cons, List.not_mem_nil, or_false] at hk
  rcases hk with hk | hk
  · exact go 1 hk
  · exact go 2 hk
theorem undoTo_succ {c p i : Nat} {ps : List Nat} (h : ps.reverse.take (i + 1) = ps.reverse.take i ++ [p]) : undoTo c ps (i + 1) = undo p (undoTo c ps i) := by
  unfold undoTo; rw [h, List.foldl_append]; rfl
theorem ne_of_allLt {d : Addr} : ∀ {l : List (Addr × Obj)}, AllLt d l → ∀ q ∈ l, q.1 ≠ d
  | [], _, q, h => nomatch h
  | p :: r, h, q, hq => by
    rcases List.mem_cons.mp hq with rfl | hq
    · exact Nat.ne_of_lt h.1
    · exact ne_of_allLt h.2 q hq
theorem pow_le8 {i : Nat} (h : i < 4) : 2 ^ i ≤ 8 := by
  rcases (show i = 0 ∨ i = 1 ∨ i = 2 ∨ i = 3 by omega) with rfl | rfl | rfl | rfl <;> decide
theorem u_ins {a b c d x q : Addr × Obj} {FX tl : List (Addr × Obj)} (h : q ∈ a :: b :: c :: d :: (FX ++ x :: tl)) : q ∈ [x, a, b, c] ++ d :: (FX ++ tl) := by
  simp only [List.mem_cons, List.mem_append, List.cons_append, List.nil_append] at h ⊢
  rcases h with h | h | h | h | h | h | h <;> simp [h]
noncomputable def U1J (c : Nat) (tc : Tok) (P PR : Addr) (oPR : Obj) (ps : List Nat) (i : Nat) (m₁ : Str → Option Value) (news₁ : List (Addr × Obj)) : Prop :=
  ∃ (R : Addr) (vs : List Value) (n : Nat) (tl : List (Addr × Obj)) (vf vr von vt vp : Option Value), news₁ = (PR, oPR) :: (R, listOf vs.toArray n) :: tl ∧ RowsIn (fun a o => (a, o) ∈ tl) vs (undoTo c ps i) ∧ RowsOk i (undoTo c ps i) ∧ (undoTo c ps i).length = 2 ^ i ∧ m₁ = UM c tc P (.ref R) vf vr von vt vp
noncomputable def U2J (c : Nat) (tc : Tok) (P R FZ I : Addr) (vp : Value) (FX tl : List (Addr × Obj)) (p : Nat) (rows : List (List Nat)) (j : Nat) (m₂ : Str → Option Value) (news₂ : List (Addr × Obj)) : Prop :=
  ∃ (ws : List Value) (nz : Nat) (tl2 : List (Addr × Obj)) (vr von vt : Option Value), news₂ = (FZ, listOf ws.toArray nz) :: (FX ++ tl2) ∧ RowsIn (fun a o => (a, o) ∈ tl2) ws (undo p (rows.take j)) ∧ (∀ q ∈ tl, q ∈ tl2) ∧ (∀ q ∈ tl2, q.1 ≠ FZ ∧ q.1 ≠ I) ∧ m₂ = UM c tc P (.ref R) (some (.ref FZ)) vr von vt (some vp)
noncomputable def U3J (c : Nat) (tc : Tok) (P R FZ I I2 O ra : Addr) (oI2 oO : Obj) (vp : Value) (FX tl : List (Addr × Obj)) (p : Nat) (rows : List (List Nat)) (ks : List Nat) (j o : Nat) (m₃ : Str → Option Value) (news₃ : List (Addr × Obj)) : Prop :=
  ∃ (ws' : List Value) (nz' : Nat) (tl3 : List (Addr × Obj)) (von vt : Option Value), news₃ = (O, oO) :: (I2, oI2) :: (FZ, listOf ws'.toArray nz') :: (FX ++ tl3) ∧
        RowsIn (fun a o => (a, o) ∈ tl3) ws' (undo p (rows.take j) ++ [undo1 p ks 1, undo1 p ks 2].take o) ∧ (∀ q ∈ tl, q ∈ tl3) ∧ (∀ q ∈ tl3, q.1 ≠ FZ ∧ q.1 ≠ I ∧ q.1 ≠ I2) ∧ m₃ = UM c tc P (.ref R) (some (.ref FZ)) (some (.ref ra)) von vt (some vp)
theorem len_rows {j i : Nat} {a : List Value} {p : Nat} {rows : List (List Nat)} {ks : List Nat} {o : Nat} (h1 : a.length = (undo p (rows.take j) ++ [undo1 p ks 1, undo1 p ks 2].take o).length) (h2 : j < rows.length) (h3 : rows.length = 2 ^ i) (h4 : i < 4) : a.toArray.size ≤ sizeLine := by
  have h5 := pow_le8 h4
  rw [List.length_append, undo_length, List.length_take, List.length_take] at h1
  rw [List.size_toArray, sizeLine_eq]
  simp only [List.length_cons, List.length_nil] at h1
  omega
noncomputable def UnPost (c : Nat) (ps : List Nat) (r : Value) (tl : List (Addr × Obj)) : Prop :=
  ∃ (R : Addr) (vs : List Value) (n : Nat), r = .ref R ∧ (R, listOf vs.toArray n) ∈ tl ∧ RowsIn (fun a o => (a, o) ∈ tl) vs (undone c ps)
section
local macro_rules | `(tactic| walk_at "exec For") => `(tactic| refine Stop.of ?_)
local macro_rules | `(tactic| walk_at "exec For Name Name cons nil") => `(tactic| refine Stop.of ?_)
local macro_rules | `(tactic| walk_at "exec For Name Subscript cons nil") => `(tactic| refine Stop.of ?_)
local macro_rules | `(tactic| walk_at "exec For Name List cons nil") => `(tactic| refine Stop.of ?_)
local macro_rules | `(tactic| walk_at "subscriptTail Name Name ref int") => `(tactic| refine Stop.of ?_)
local macro_rules | `(tactic| walk_at "subscriptTail Name Slice ref ref") => `(tactic| ((with_reducible show wpAny _ _ (subscriptTail (PySem.Expr.Name (Str.ofString "row") _) _ _ _) _ _ _); refine Stop.of ?_))
local macro_rules | `(tactic| walk_at "binaryOp Add ref ref") => `(tactic| refine Stop.of ?_)
local macro_rules | `(tactic| walk_at "call builtin:list.append") => `(tactic| refine Stop.of ?_)
theorem c_undone {w : World} {c p0 p1 p2 p3 : Nat} {tc : Tok} {P : Addr} (hc : Wheel c) (q0 : p0 < 4) (q1 : p1 < 3) (q2 : p2 < 2) (q3 : p3 < 1) :
   Con w 860 8600 139 [.int (c : Nat) tc, .ref P] (fun h => ∃ t0 t1 t2 t3 n, h.get? P = some ⟨.type "list", none, .seq #[.int p0 t0, .int p1 t1, .int p2 t2, .int p3 t3] n, #[]⟩)
     (UnPost c [p0, p1, p2, p3]) := by
  w_top off
  intro gd outer base s tp lo mean mg mb Q E B X T hpre hret
  obtain ⟨t0, t1, t2, t3, n, hP⟩ := hpre
  revert X
  k_fill
  intro X
  refine' enterP (binds := [(Str.ofString "corner", .int (c : Nat) tc), (Str.ofString "places", .ref P)]) B X T hret ?k6 ?k7 ?k8 ?k9 ?kL ?_ ?c2 ?c3 ?c4 ?c5
  case k6 => k_dflt k_is
  case k7 => k_dflt k_is
  case k8 => exact (by decide : (860:Nat) < recursionLimit)
  case k9 => exact BindsTo.of_eq rfl
  case kL => exact locs rfl
  case c5 => decide
  case c2 => exact rfl
  case c3 => exact rfl
  case c4 => exact rfl
  intro L' h' F N
  clear hret
  replace F : Fr s.heap L' h' (mapOf [(Str.ofString "places", some (.ref P)), (Str.ofString "corner", some (.int (c : Nat) tc))]) := fr_lookup F rfl
  refine hide fun RQ hRQ => ?_
  have hPl : s.heap.IsList P #[.int p0 t0, .int p1 t1, .int p2 t2, .int p3 t3] := ⟨_, hP, rfl, _, rfl⟩
  k_steps
  unfold Stop
  refine for_ (by intro x; rfl) ?_
  k_steps
  rename_i la hA l1A lb hB l1B hC PR hD F1 N1 l1C
  replace F1 : Fr s.heap L' _ (UM c tc P (.ref lb) none none none none none) := fr_nones [Str.ofString "fresh", Str.ofString "row", Str.ofString "on", Str.ofString "two", Str.ofString "place"] (l := [(Str.ofString "rows", some (.ref lb)), (Str.ofString "places", some (.ref P)), (Str.ofString "corner", some (.int (c : Nat) tc))]) F1 rfl rfl
  refine it_list rfl F1 N1 (.inr ⟨_, List.mem_cons_self, rfl, _, rfl⟩) fun I g St src F2 N2 off => ?_
  obtain ⟨oPR, hoPR⟩ : ∃ o, o = listOf #[Value.int (↑p3) t3, Value.int (↑p2) t2, Value.int (↑p1) t1, Value.int (↑p0) t0] 0 := ⟨_, rfl⟩
  replace N2 : News s.heap L' g ((PR, oPR) :: (lb, listOf #[Value.ref la] 0) :: (la, listOf #[Value.int (c : Nat) tc] 0) :: []) := hoPR ▸ N2
  have dPR : oPR.cls = .type "list" ∧ oPR.data = .seq #[Value.int (↑p3) t3, Value.int (↑p2) t2, Value.int (↑p1) t1, Value.int (↑p0) t0] 0 := hoPR ▸ ⟨rfl, rfl⟩
  refine for_src (U1J c tc P PR oPR [p0, p1, p2, p3]) (by rfl) (by rfl) (by rfl) src F2 N2 (hoPR ▸ off) (.inr ⟨_, List.mem_cons_self, dPR.1, _, dPR.2⟩) ?nf ?j0 ?step ?done
  case nf => simpa using ⟨src.ne, fun e => (N1 _ List.mem_cons_self).2.1 e.symm⟩
  case j0 =>
    refine ⟨lb, [.ref la], 0, [(la, listOf #[Value.int (↑c) tc] 0)], none, none, none, none, none, rfl, ?_, ?_, rfl, rfl⟩
    · exact RowsIn.snoc (kss := []) (xs := [.int (c : Nat) tc]) RowsIn.nil List.mem_cons_self rfl
    · intro ks hk
      obtain rfl : ks = [c] := List.mem_singleton.mp hk
      exact ⟨rfl, fun k hk => by rw [List.mem_singleton.mp hk]; exact hc⟩
  case done =>
    intro m₁ news₁ h tk hJ F3 N3 hS3
    refine hideP fun G hG => ?_
    obtain ⟨R, vs, n, tl, vf, vr, von, vt, vp, hn1, hrows, hok, hcnt, hm1⟩ := hJ
    replace N3 : News s.heap L' h ((PR, oPR) :: (R, listOf vs.toArray n) :: tl) := hn1 ▸ N3
    replace F3 : Fr s.heap L' h (UM c tc P (.ref R) vf vr von vt vp) := hm1 ▸ F3
    refine hG ?_
    clear hG G
    k_steps
    refine hRQ _ _ ?_
    exact Back.intro F3 N3 ((R, listOf vs.toArray n) :: tl) (fun q hq => List.mem_cons_of_mem _ hq) ⟨R, vs, n, rfl, List.mem_cons_self, hrows.mono fun a o hm => List.mem_cons_of_mem _ hm⟩
  case step =>
    clear N1 F1 N2 F2 off src
    intro i v m₁ news₁ oI h tk hi hiv hJ F3 N3 off3 hS3
    refine hide fun R2 hR2 => ?_
    refine hideP fun G hG => ?_
    obtain ⟨R, vs, n, tl, vf, vr, von, vt, vp, hn1, hrows, hok, hcnt, hm1⟩ := hJ
    have hi4 : i < 4 := hi
    obtain ⟨p, tp, hv, hp, htake⟩ := uplace q0 q1 q2 q3 hi4 hiv
    replace N3 : News s.heap L' h ((I, oI) :: (PR, oPR) :: (R, listOf vs.toArray n) :: tl) := hn1 ▸ N3
    replace F3 : Fr s.heap L' h (UM c tc P (.ref R) vf vr von vt (some (.int (p : Int) tp))) := fr_set (l := umL c tc P (.ref R) vf vr von vt vp) (hv ▸ hm1 ▸ F3) rfl rfl
    have offT : ∀ q ∈ tl, q.1 ≠ I := fun q hq => off3 q (hn1 ▸ .tail _ (.tail _ hq))
    have offP : PR ≠ I := off3 (PR, oPR) (hn1 ▸ .head _)
    refine hG ?_
    clear hG G hv hn1 hm1 off3 hS3 hiv
    k_steps
    unfold Stop
    refine for_ (by intro x; rfl) ?_
    k_steps
    rename_i FZ hA2 l1A2 hB2 F4 N4
    have yFX : ∀ q ∈ [(I, oI), (PR, oPR), (R, listOf vs.toArray n)], q.1 ≠ FZ := all_cons (Nat.ne_of_lt l1A2.1) (all_cons (Nat.ne_of_lt l1A2.2.1) (all_cons (Nat.ne_of_lt l1A2.2.2.1) all_nil))
    obtain ⟨FX, hFX, mI, mP, mR⟩ : ∃ FX, FX = [(I, oI), (PR, oPR), (R, listOf vs.toArray n)] ∧ (I, oI) ∈ FX ∧ (PR, oPR) ∈ FX ∧ (R, listOf vs.toArray n) ∈ FX := ⟨_, rfl, .head _, .tail _ (.head _), .tail _ (.tail _ (.head _))⟩
    replace yFX : ∀ q ∈ FX, q.1 ≠ FZ := hFX ▸ yFX
    have hRL : L' ≠ R := fun e => (N4 (R, listOf vs.toArray n) (.tail _ (.tail _ (.tail _ (.head _))))).2.1 e.symm
    replace N4 := show News s.heap L' hB2 ((FZ, listOf #[] 0) :: (FX ++ tl)) from hFX ▸ N4
    replace F4 : Fr s.heap L' hB2 (UM c tc P (.ref R) (some (.ref FZ)) vr von vt (some (.int (p : Int) tp))) := fr_set F4 rfl rfl
    refine it_list rfl F4 N4 (.inr ⟨_, .tail _ (List.mem_append_left _ mR), rfl, _, rfl⟩) fun I2 g2 St2 src2 F5 N5 off5 => ?_
    refine for_src (U2J c tc P R FZ I (.int (p : Int) tp) FX tl p (undoTo c [p0, p1, p2, p3] i))
      (by rfl) (by rfl) (by rfl) src2 F5 N5 off5 (.inr ⟨_, .tail _ (List.mem_append_left _ mR), rfl, _, rfl⟩) ?nf2 ?j02 ?step2 ?done2
    case nf2 => simpa using ⟨src2.ne, hRL⟩
    case j02 => exact ⟨[], 0, tl, vr, von, vt, rfl, RowsIn.nil, fun q hq => hq, fun q hq => ⟨ne_of_allLt l1A2.2.2.2 q hq, offT q hq⟩, rfl⟩
    case done2 =>
      intro m₁ news₁ h tk hJ F6 N6 hS6
      refine hideP fun G hG => ?_
      obtain ⟨ws, nz, tl2, vr, von, vt, hn2, hws, hsub, hne, hm2⟩ := hJ
      have hall : (undoTo c [p0, p1, p2, p3] i).take vs.toArray.size = undoTo c [p0, p1, p2, p3] i := by rw [List.size_toArray, hrows.1, List.take_length]
      rw [hall] at hws
      replace F6 : Fr s.heap L' h (UM c tc P (.ref R) (some (.ref FZ)) vr von vt (some (.int (p : Int) tp))) := hm2 ▸ F6
      replace N6 : News s.heap L' h ((FZ, listOf ws.toArray nz) :: (FX ++ tl2)) := hn2 ▸ N6
      replace N6 : News s.heap L' h ((FZ, listOf ws.toArray nz) :: (I, oI) :: (PR, oPR) :: (R, listOf vs.toArray n) :: tl2) := show News s.heap L' h ((FZ, listOf ws.toArray nz) :: ([(I, oI), (PR, oPR), (R, listOf vs.toArray n)] ++ tl2)) from hFX ▸ N6
      refine hG ?_
      clear hG G hall hm2 hn2 F5 N5 off5 src2
      k_steps
      refine hR2 _ _ ?_
      dsimp only [FTurn]
      rename Fr _ _ _ _ => FE
      rename News _ _ _ _ => NE
      replace FE : Fr s.heap L' _ (UM c tc P (.ref FZ) (some (.ref FZ)) vr von vt (some (.int (p : Int) tp))) := fr_set FE rfl rfl
      refine FNxt.intro FE NE ((PR, oPR) :: (FZ, listOf ws.toArray nz) :: tl2) (fun _ h => mem_pick (n := 4) (is := [1, 2, 0]) h) (all_cons offP (all_cons (Nat.ne_of_gt l1A2.1) fun q hq => (hne q hq).2)) (.inr ⟨_, List.mem_cons_self, dPR.1, _, dPR.2⟩)
        ⟨FZ, ws, nz, tl2, some (.ref FZ), vr, von, vt, some (.int (p : Int) tp), rfl, ?_, ?_, ?_, rfl⟩
      · rw [undoTo_succ htake]; exact hws
      · rw [undoTo_succ htake]; exact undo_ok hp hok
      · rw [undoTo_succ htake, undo_length, hcnt, Nat.pow_succ]; omega
    case step2 =>
      clear F4 N4 F5 N5 off5 src2 hRL
      intro j v2 m₂ news₂ oI2 h2 tk2 hj hjv hJ F6 N6 off6 hS6
      refine hide fun R3 hR3 => ?_
      refine hideP fun G hG => ?_
      obtain ⟨ws, nz, tl2, vr, von, vt, hn2, hws, hsub, hne, hm2⟩ := hJ
      have hjr : j < (undoTo c [p0, p1, p2, p3] i).length := by rw [← hrows.1]; simpa using hj
      obtain ⟨ks, hks⟩ : ∃ ks, (undoTo c [p0, p1, p2, p3] i)[j]? = some ks := ⟨_, List.getElem?_eq_getElem hjr⟩
      obtain ⟨ra, xs, nx, hv2, hra, hxs⟩ := hrows.2 j v2 ks (by simpa using hjv) hks
      have hra2 := hsub _ hra
      have hlen := (hok ks (List.mem_of_getElem? hks)).1
      have hwh := (hok ks (List.mem_of_getElem? hks)).2
      have hxl : xs.length = ks.length := by simpa [nums] using congrArg List.length hxs
      replace N6 : News s.heap L' h2 ((I2, oI2) :: (FZ, listOf ws.toArray nz) :: (FX ++ tl2)) := hn2 ▸ N6
      replace F6 : Fr s.heap L' h2 (UM c tc P (.ref R) (some (.ref FZ)) (some (.ref ra)) von vt (some (.int (p : Int) tp))) := fr_set (l := umL c tc P (.ref R) (some (.ref FZ)) vr von vt (some (.int (p : Int) tp))) (hv2 ▸ hm2 ▸ F6) rfl rfl
      have offF : FZ ≠ I2 := off6 (FZ, listOf ws.toArray nz) (hn2 ▸ .head _)
      have offX : ∀ q ∈ FX, q.1 ≠ I2 := fun q hq => off6 q (hn2 ▸ .tail _ (List.mem_append_left _ hq))
      have offT2 : ∀ q ∈ tl2, q.1 ≠ I2 := fun q hq => off6 q (hn2 ▸ .tail _ (List.mem_append_right _ hq))
      refine hG ?_
      clear hG G hn2 hm2 hv2 off6 hjv hS6 vr
      k_steps
      unfold Stop
      refine for_ (by intro x; rfl) ?_
      k_steps
      rename_i O hA3 F7 N7 l17
      have oFZ : O ≠ FZ := Nat.ne_of_gt l17.2.1
      obtain ⟨oO, hoO⟩ : ∃ o, o = listOf #[Value.int 1 tk2, Value.int 2 (tk2 + 1)] 0 := ⟨_, rfl⟩
      have dO : oO.cls = .type "list" ∧ oO.data = .seq #[Value.int 1 tk2, Value.int 2 (tk2 + 1)] 0 := hoO ▸ ⟨rfl, rfl⟩
      replace N7 := show News s.heap L' hA3 ((O, oO) :: (I2, oI2) :: (FZ, listOf ws.toArray nz) :: (FX ++ tl2)) from hoO ▸ N7
      refine it_list rfl F7 N7 (.inr ⟨_, .head _, dO.1, _, dO.2⟩) fun I3 g3 St3 src3 F8 N8 off8 => ?_
      refine for_src (U3J c tc P R FZ I I2 O ra oI2 oO (.int (p : Int) tp) FX tl p (undoTo c [p0, p1, p2, p3] i) ks j)
        (by rfl) (by rfl) (by rfl) src3 F8 N8 off8 (.inr ⟨_, .head _, dO.1, _, dO.2⟩) ?nf3 ?j03 ?step3 ?done3
      case nf3 => simpa using ⟨src3.ne, fun e => (N7 _ List.mem_cons_self).2.1 e.symm⟩
      case j03 => exact ⟨ws, nz, tl2, von, vt, rfl, by simpa using hws, hsub, fun q hq => ⟨(hne q hq).1, (hne q hq).2, offT2 q hq⟩, rfl⟩
      case done3 =>
        intro m₁ news₁ h tk hJ F9 N9 hS9
        refine hideP fun G hG => ?_
        obtain ⟨ws', nz', tl3, von, vt, hn3, hws', hsub', hne', hm3⟩ := hJ
        replace N9 : News s.heap L' h ((O, oO) :: (I2, oI2) :: (FZ, listOf ws'.toArray nz') :: (FX ++ tl3)) := hn3 ▸ N9
        replace F9 : Fr s.heap L' h (UM c tc P (.ref R) (some (.ref FZ)) (some (.ref ra)) von vt (some (.int (p : Int) tp))) := hm3 ▸ F9
        refine hG ?_
        clear hG G hn3 hm3
        k_steps
        refine hR3 _ _ ?_
        dsimp only [FTurn]
        rename Fr _ _ _ _ => FE
        rename News _ _ _ _ => NE
        refine FNxt.intro FE NE ((FZ, listOf ws'.toArray nz') :: (FX ++ tl3)) (fun q hq => .tail _ hq) (all_cons offF (all_app offX fun q hq => (hne' q hq).2.2)) (.inr ⟨_, .tail _ (List.mem_append_left _ mR), rfl, _, rfl⟩)
          ⟨ws', nz', tl3, some (.ref ra), von, vt, rfl, ?_, hsub', fun q hq => ⟨(hne' q hq).1, (hne' q hq).2.1⟩, rfl⟩
        rw [undo_snoc hks]; exact hws'
      case step3 =>
        clear F8 N8 off8 src3 F7 N7 hws
        intro o v3 m₃ news₃ oI3 h3 tk3 ho hov hJ F9 N9 off9 hS9
        refine hide fun R4 hR4 => ?_
        refine hideP fun G hG => ?_
        obtain ⟨ws', nz', tl3, von', vt', hn3, hws', hsub', hne', hm3⟩ := hJ
        have ho2 : o < 2 := ho
        obtain ⟨on, ton, hv3, hon⟩ := two_at ho2 hov
        have hra3 := hsub' _ hra
        obtain ⟨ux, hx⟩ := num_at hxs (show p < ks.length by omega)
        have hkw : ks.getD p 0 < 3 := by have := hwh _ (getD_mem (show p < ks.length by omega)); unfold Wheel at this; omega
        obtain ⟨kp, hkp⟩ : ∃ kp, ks.getD p 0 = kp := ⟨_, rfl⟩
        rw [hkp] at hx hkw
        obtain ⟨NF, hNF, mra⟩ : ∃ NF, NF = FX ++ tl3 ∧ (ra, listOf xs.toArray nx) ∈ NF := ⟨_, rfl, List.mem_append_right _ hra3⟩
        replace N9 : News s.heap L' h3 ((I3, oI3) :: (O, oO) :: (I2, oI2) :: (FZ, listOf ws'.toArray nz') :: NF) := hNF ▸ hn3 ▸ N9
        replace F9 : Fr s.heap L' h3 (UM c tc P (.ref R) (some (.ref FZ)) (some (.ref ra)) (some (.int (on : Int) ton)) vt' (some (.int (p : Int) tp))) := fr_set (l := umL c tc P (.ref R) (some (.ref FZ)) (some (.ref ra)) von' vt' (some (.int (p : Int) tp))) (hv3 ▸ hm3 ▸ F9) rfl rfl
        have gra := (N9 _ (.tail _ (.tail _ (.tail _ (.tail _ mra))))).1
        have offO : O ≠ I3 := off9 (O, oO) (hn3 ▸ .head _)
        have offI2 : I2 ≠ I3 := off9 (I2, oI2) (hn3 ▸ .tail _ (.head _))
        have offFZ : FZ ≠ I3 := off9 (FZ, listOf ws'.toArray nz') (hn3 ▸ .tail _ (.tail _ (.head _)))
        have offNF : ∀ q ∈ NF, q.1 ≠ I3 := fun q hq => off9 q (hn3 ▸ .tail _ (.tail _ (.tail _ (hNF ▸ hq))))
        refine hG ?_
        clear hG G hv3 hn3 hm3 hov off9
        k_steps
        unfold Stop
        refine tail_any (PySem.IsL.isList gra).typeIs slot_list_getitem.lookup (wpAny_getItem_list (PySem.IsL.isList gra) (by omega) (by omega) (at_natK hx) ?_) (by with_unfolding_all rfl)
        k_steps
        unfold Stop
        refine tail_any (PySem.IsL.isList gra).typeIs slot_list_getitem.lookup (wpAny_getItem_list (PySem.IsL.isList gra) (by omega) (by omega) (at_natK hx) ?_) (by with_unfolding_all rfl)
        k_steps
        unfold Stop
        rename_i TW hT l1T hT2 F10 N10
        have gra10 := (N10 (ra, listOf xs.toArray nx) (.tail _ (.tail _ (.tail _ (.tail _ (.tail _ mra)))))).1
        refine slice_list (s := ⟨_, _, _, _, _⟩) F10 N10 (PySem.IsL.isList gra10) .none (.int _ _) ?_ (hsz := by show xs.toArray.size ≤ sizeLine; rw [List.size_toArray, sizeLine_eq]; omega)
        intro h11 F11 N11
        rw [slicePick_upto'] at N11
        dsimp only at F11 N11 ⊢
        generalize hT2.objs.size + 1 = SA at N11 ⊢
        k_steps
        unfold Stop
        refine add_lists (by k_asm) (by k_asm) (vs := xs.take p) (PySem.IsL.isList (N11 _ List.mem_cons_self).1) (PySem.IsL.isList (N11 _ (List.mem_cons_of_mem _ List.mem_cons_self)).1) ?_ (hsz := by rw [List.length_take, sizeLine_eq]; show _ + 2 ≤ _; omega)
        intro h12 F12 N12
        dsimp only at F12 N12 ⊢
        generalize h11.objs.size = SB at N12 ⊢
        replace N12 := show News s.heap L' h12 ((SB, listOf (xs.take p ++ [Value.int ((kp + on : Int).fmod 3) (tk3 + 1 + 1), Value.int ((kp - on : Int).fmod 3) (tk3 + 1 + 1 + 1 + 1 + 1)]).toArray 0) :: (I3, oI3) :: (O, oO) :: (I2, oI2) :: (FZ, listOf ws'.toArray nz') :: NF) from News_pick N12 7 [0, 3, 4, 5, 6]
        k_steps
        unfold Stop
        have gra12 := (N12 (ra, listOf xs.toArray nx) (.tail _ (.tail _ (.tail _ (.tail _ (.tail _ mra)))))).1
        refine slice_list (s := ⟨_, _, _, _, _⟩) F12 N12 (PySem.IsL.isList gra12) (.int _ _) .none ?_ (hsz := by show xs.toArray.size ≤ sizeLine; rw [List.size_toArray, sizeLine_eq]; omega)
        intro h13 F13 N13
        rw [show ((p : Int) + 1) = ((p + 1 : Nat) : Int) from rfl, slicePick_from'] at N13
        dsimp only at F13 N13 ⊢
        generalize h12.objs.size + 1 = SC at N13 ⊢
        k_steps
        unfold Stop
        refine add_lists (by k_asm) (by k_asm) (ws := xs.drop (p + 1)) (PySem.IsL.isList (N13 _ (List.mem_cons_of_mem _ List.mem_cons_self)).1) (PySem.IsL.isList (N13 _ List.mem_cons_self).1) ?_ (hsz := by rw [List.length_append, List.length_take, List.length_drop, sizeLine_eq]; show _ + 2 + _ ≤ _; omega)
        intro h14 F14 N14
        dsimp only at F14 N14 ⊢
        have lt14 : ∀ q ∈ (I3, oI3) :: (O, oO) :: (I2, oI2) :: (FZ, listOf ws'.toArray nz') :: NF, q.1 < h13.objs.size := fun q hq => Heap.lt_size (N13 q (.tail _ (.tail _ hq))).1
        generalize h13.objs.size = SD at N14 lt14 ⊢
        obtain ⟨oS, hoS, rS⟩ : ∃ oS : Obj, oS = listOf (xs.take p ++ [Value.int ((kp + on : Int).fmod 3) (tk3 + 1 + 1), Value.int ((kp - on : Int).fmod 3) (tk3 + 1 + 1 + 1 + 1 + 1)] ++ xs.drop (p + 1)).toArray 0 ∧ RowsIn (fun a o => (a, o) ∈ (SD, oS) :: tl3) (ws' ++ [Value.ref SD]) (undo p ((undoTo c [p0, p1, p2, p3] i).take j) ++ [undo1 p ks 1, undo1 p ks 2].take (o + 1)) := ⟨_, rfl, by
          rw [take_two (f := undo1 p ks) ho2 hon rfl rfl, ← List.append_assoc]
          exact RowsIn.snoc (hws'.mono fun a o hm => List.mem_cons_of_mem _ hm) List.mem_cons_self (row_ok hxs hkp hkw (by omega))⟩
        have N15 : News s.heap L' h14 ([(SD, oS), (I3, oI3), (O, oO), (I2, oI2)] ++ (FZ, listOf ws'.toArray nz') :: NF) := hoS ▸ News_pick N14 7 [0, 3, 4, 5, 6]
        clear hoS N14 F13 N13 N12 F12
        k_steps
        unfold Stop
        have xFZ : ∀ q ∈ [(SD, oS), (I3, oI3), (O, oO), (I2, oI2)], q.1 ≠ FZ := all_cons (Nat.ne_of_gt (lt14 (FZ, listOf ws'.toArray nz') (by k_mem))) (all_cons offFZ.symm (all_cons oFZ (all_cons offF.symm all_nil)))
        have yFZ : ∀ q ∈ NF, q.1 ≠ FZ := hNF ▸ all_app yFX fun q hq => (hne' q hq).1
        refine append_K F14 N15 (upd_of xFZ yFZ) ?_ (hsz := len_rows hws'.1 hjr hcnt hi4)
        intro h16 F16 N16
        clear N15
        k_steps
        replace F16 : Fr s.heap L' h16 (UM c tc P (.ref R) (some (.ref FZ)) (some (.ref ra)) (some (.int (on : Int) ton)) (some (.ref TW)) (some (.int (p : Int) tp))) := fr_set F16 rfl rfl
        refine hR4 _ _ ?_
        dsimp only [FTurn]
        rw [List.push_toArray] at N16
        subst hNF
        refine FNxt.intro F16 N16 ((O, oO) :: (I2, oI2) :: (FZ, listOf (ws' ++ [Value.ref SD]).toArray (nz' + 1)) :: (FX ++ (SD, oS) :: tl3)) (fun q hq => u_ins hq) (all_cons offO (all_cons offI2 (all_cons offFZ (all_app (fun q hq => offNF q (List.mem_append_left _ hq)) (all_cons (Nat.ne_of_gt (lt14 (I3, oI3) (.head _))) fun q hq => offNF q (List.mem_append_right _ hq)))))) (.inr ⟨_, List.mem_cons_self, dO.1, _, dO.2⟩)
          ⟨ws' ++ [Value.ref SD], nz' + 1, _, some (.int (on : Int) ton), some (.ref TW), rfl, rS, fun q hq => List.mem_cons_of_mem _ (hsub' q hq), all_cons ⟨Nat.ne_of_gt (lt14 (FZ, listOf ws'.toArray nz') (by k_mem)), Nat.ne_of_gt (lt14 (I, oI) (.tail _ (.tail _ (.tail _ (.tail _ (List.mem_append_left _ mI)))))), Nat.ne_of_gt (lt14 (I2, oI2) (by k_mem))⟩ hne', rfl⟩
end
end Mine
end
section
open PySem PySem.W PySem.Calls PyProof.Rows PyProof.Rows.LCg
namespace Mine
set_option maxRecDepth 100000
set_option maxHeartbeats 8000000
noncomputable def PairsIn (get : Addr → Obj → Prop) (vs : List Value) (ps : List (Nat × Nat)) : Prop :=
  vs.length = ps.length ∧ ∀ (j : Nat) (v : Value) (x : Nat × Nat), vs[j]? = some v → ps[j]? = some x → ∃ (a : Addr) (t u : Tok), v = Value.ref a ∧ get a (tupO #[.int (x.1 : Nat) t, .int (x.2 : Nat) u])
theorem PairsIn.nil {get : Addr → Obj → Prop} : PairsIn get [] [] := ⟨rfl, fun _ _ _ h => by cases h⟩
theorem PairsIn.mono {get get' : Addr → Obj → Prop} {vs : List Value} {ps : List (Nat × Nat)} (h : PairsIn get vs ps) (hg : ∀ a o, get a o → get' a o) : PairsIn get' vs ps :=
  ⟨h.1, fun j v ks h1 h2 => let ⟨a, t, u, e1, e2⟩ := h.2 j v ks h1 h2; ⟨a, t, u, e1, hg _ _ e2⟩⟩
theorem PairsIn.snoc {get : Addr → Obj → Prop} {vs : List Value} {ps : List (Nat × Nat)} {x y : Nat} {a : Addr} {t u : Tok} (h : PairsIn get vs ps) (hg : get a (tupO #[.int (x : Nat) t, .int (y : Nat) u])) : PairsIn get (vs ++ [Value.ref a]) (ps ++ [(x, y)]) := by
  refine ⟨by simp [h.1], fun j v ks' h1 h2 => ?_⟩
  rw [List.getElem?_append] at h1 h2
  rw [← h.1] at h2
  split at h1
  · next hl => rw [if_pos hl] at h2; exact h.2 j v ks' h1 h2
  · next hl =>
    rw [if_neg hl] at h2
    have : j - vs.length = 0 := by
      cases e : j - vs.length with
      | zero => rfl
      | succ k => rw [e] at h1; simp at h1
    rw [this] at h1 h2
    cases h1; cases h2
    exact ⟨a, t, u, rfl, hg⟩
noncomputable def cutsGo : List Nat → List Nat → List (Nat × Nat)
  | [], _ => []
  | p :: ps, es => (es.getD p 0, es.getD (p + 2) 0) :: cutsGo ps (es.take (p + 1) ++ es.drop (p + 2))
noncomputable def cutsOf (ps : List Nat) : List (Nat × Nat) := cutsGo ps [0, 1, 2, 3, 4, 5]
noncomputable abbrev cuL (P : Addr) (ends cuts : Value) (place : Option Value) : List (Str × Option Value) := [(Str.ofString "place", place), (Str.ofString "cuts", some cuts), (Str.ofString "ends", some ends), (Str.ofString "places", some (.ref P))]
noncomputable abbrev CuM (P : Addr) (ends cuts : Value) (place : Option Value) : Str → Option Value := mapOf (cuL P ends cuts place)
theorem cut_snoc {p : Nat} {all dn : List (Nat × Nat)} {ps rest es : List Nat} (h : all = dn ++ cutsGo ps es) (hd : ps = p :: rest) : all = (dn ++ [(es.getD p 0, es.getD (p + 2) 0)]) ++ cutsGo rest (es.take (p + 1) ++ es.drop (p + 2)) := by
  rw [h, hd, List.append_assoc]; rfl
theorem nums_cut {es : List Nat} {xs : List Value} {p : Nat} (h : xs.map nt = nums es) : (xs.take (p + 1) ++ xs.drop (p + 2)).map nt = nums (es.take (p + 1) ++ es.drop (p + 2)) := by
  rw [List.map_append, List.map_take, List.map_drop, h]
  unfold nums
  rw [List.map_append, List.map_take, List.map_drop]
noncomputable def CuJ (P CA : Addr) (ps : List Nat) (i : Nat) (m₁ : Str → Option Value) (news₁ : List (Addr × Obj)) : Prop :=
  ∃ (EA : Addr) (xs vs : List Value) (nx n : Nat) (es : List Nat) (dn : List (Nat × Nat)) (tl : List (Addr × Obj)) (vp : Option Value),
      news₁ = (CA, listOf vs.toArray n) :: (EA, listOf xs.toArray nx) :: tl ∧ xs.map nt = nums es ∧ es.length = 6 - i ∧ dn.length = i ∧ PairsIn (fun a o => (a, o) ∈ tl) vs dn ∧ cutsOf ps = dn ++ cutsGo (ps.drop i) es ∧ EA ≠ CA ∧ (∀ q ∈ tl, q.1 ≠ CA) ∧ m₁ = CuM P (.ref EA) (.ref CA) vp
theorem at_nat2 {xs : List Value} {x : Nat} {v : Value} (h : xs[x + 2]? = some v) : xs.toArray[(((x : Nat) : Int) + 2).toNat]? = some v := by
  rw [show (((x : Nat) : Int) + 2).toNat = x + 2 by omega]; simpa using h
theorem cut_len {es : List Nat} {p i : Nat} (h : es.length = 6 - i) (hp : p < 4 - i) (hi : i < 4) : (es.take (p + 1) ++ es.drop (p + 2)).length = 6 - (i + 1) := by
  rw [List.length_append, List.length_take, List.length_drop]; omega
noncomputable def CutPost (ps : List Nat) (r : Value) (tl : List (Addr × Obj)) : Prop := ∃ (R : Addr) (vs : List Value) (n : Nat), r = .ref R ∧ (R, listOf vs.toArray n) ∈ tl ∧ PairsIn (fun a o => (a, o) ∈ tl) vs (cutsOf ps)
section
local macro_rules | `(tactic| walk_at "exec For") => `(tactic| refine Stop.of ?_)
local macro_rules | `(tactic| walk_at "exec For Name Name cons nil") => `(tactic| refine Stop.of ?_)
local macro_rules | `(tactic| walk_at "subscriptTail Name Name ref int") => `(tactic| refine Stop.of ?_)
local macro_rules | `(tactic| walk_at "subscriptTail Name BinOp ref int") => `(tactic| refine Stop.of ?_)
local macro_rules | `(tactic| walk_at "subscriptTail Name Slice ref ref") => `(tactic| refine Stop.of ?_)
local macro_rules | `(tactic| walk_at "binaryOp Add ref ref") => `(tactic| refine Stop.of ?_)
local macro_rules | `(tactic| walk_at "call builtin:list.append") => `(tactic| refine Stop.of ?_)
theorem c_cuts {w : World} {p0 p1 p2 p3 : Nat} {P : Addr} (q0 : p0 < 4) (q1 : p1 < 3) (q2 : p2 < 2) (q3 : p3 < 1) :
   Con w 860 8600 151 [.ref P] (fun h => ∃ t0 t1 t2 t3 n, h.get? P = some ⟨.type "list", none, .seq #[.int p0 t0, .int p1 t1, .int p2 t2, .int p3 t3] n, #[]⟩)
     (CutPost [p0, p1, p2, p3]) := by
  w_top off
  intro gd outer base s tp lo mean mg mb Q E B X T hpre hret
  obtain ⟨t0, t1, t2, t3, n, hP⟩ := hpre
  revert X
  k_fill
  intro X
  refine' enterP (binds := [(Str.ofString "places", .ref P)]) B X T hret ?k6 ?k7 ?k8 ?k9 ?kL ?_ ?c2 ?c3 ?c4 ?c5
  case k6 => k_dflt k_is
  case k7 => k_dflt k_is
  case k8 => exact (by decide : (860:Nat) < recursionLimit)
  case k9 => exact BindsTo.of_eq rfl
  case kL => exact locs rfl
  case c5 => decide
  case c2 => exact rfl
  case c3 => exact rfl
  case c4 => exact rfl
  intro L' h' F N
  clear hret
  replace F : Fr s.heap L' h' (mapOf [(Str.ofString "places", some (.ref P))]) := fr_lookup F rfl
  refine hide fun R hR => ?_
  have habove := F.above
  k_steps
  unfold Stop
  refine for_ (by intro x; rfl) ?_
  k_steps
  rename_i EA hA l1A hB CA hC l1C hD F1 N1
  replace F1 : Fr s.heap L' _ (CuM P (.ref EA) (.ref CA) none) := fr_nones [Str.ofString "place"] (l := [(Str.ofString "cuts", some (.ref CA)), (Str.ofString "ends", some (.ref EA)), (Str.ofString "places", some (.ref P))]) F1 rfl rfl
  refine it_list rfl F1 N1 (.inl ⟨_, hP, rfl, _, rfl⟩) fun I g St src F2 N2 off => ?_
  refine for_src (CuJ P CA [p0, p1, p2, p3]) (by rfl) (by rfl) (by rfl) src F2 N2 off (.inl ⟨_, hP, rfl, _, rfl⟩) ?nf ?j0 ?step ?done
  case nf => simpa using ⟨src.ne, fun e => by have := Heap.lt_size hP; rw [← e] at this; exact absurd habove (Nat.not_le.mpr this)⟩
  case j0 => exact ⟨EA, [.int 0 _, .int 1 _, .int 2 _, .int 3 _, .int 4 _, .int 5 _], [], 0, 0, [0, 1, 2, 3, 4, 5], [], [], none, rfl, rfl, rfl, rfl, PairsIn.nil, rfl, Nat.ne_of_lt l1C, (fun _ h => nomatch h), rfl⟩
  case done =>
    intro m₁ news₁ h tk hJ F3 N3 hS3
    refine hideP fun G hG => ?_
    obtain ⟨EA, xs, vs, nx, n, es, dn, tl, vp, hn, hxs, hes, hdn, hvs, hall, hne1, hne2, hm⟩ := hJ
    replace N3 : News s.heap L' h ((CA, listOf vs.toArray n) :: (EA, listOf xs.toArray nx) :: tl) := hn ▸ N3
    replace F3 : Fr s.heap L' h (CuM P (.ref EA) (.ref CA) vp) := hm ▸ F3
    refine hG ?_
    clear hG G hn hm
    k_steps
    have hall2 : cutsOf [p0, p1, p2, p3] = dn := hall.trans (List.append_nil _)
    rw [← hall2] at hvs
    exact hR _ _ (Back.intro F3 N3 ((CA, listOf vs.toArray n) :: tl) (all_cons List.mem_cons_self fun q hq => List.mem_cons_of_mem _ (List.mem_cons_of_mem _ hq)) ⟨CA, vs, n, rfl, List.mem_cons_self, hvs.mono fun a o hm => List.mem_cons_of_mem _ hm⟩)
  case step =>
    clear N1 F1 N2 F2 off src
    intro i v m₁ news₁ oI h tk hi hiv hJ F3 N3 off3 hS3
    refine hide fun R2 hR2 => ?_
    refine hideP fun G hG => ?_
    obtain ⟨EA, xs, vs, nx, n, es, dn, tl, vp, hn, hxs, hes, hdn, hvs, hall, hne1, hne2, hm⟩ := hJ
    have hi4 : i < 4 := hi
    obtain ⟨p, tp, hv, hp, hdrop⟩ := place_at q0 q1 q2 q3 hi4 hiv
    obtain ⟨ux, hx⟩ := num_at hxs (show p < es.length by omega)
    obtain ⟨uy, hy⟩ := num_at hxs (show p + 2 < es.length by omega)
    have hxl : xs.length = es.length := by simpa [nums] using congrArg List.length hxs
    have hvl := hvs.1
    have hp4 : p < 4 := by omega
    have hx7 : xs.length ≤ 6 := by omega
    have hv7 : vs.length ≤ 6 := by omega
    replace N3 : News s.heap L' h ((I, oI) :: (CA, listOf vs.toArray n) :: (EA, listOf xs.toArray nx) :: tl) := hn ▸ N3
    replace F3 : Fr s.heap L' h (CuM P (.ref EA) (.ref CA) (some (.int (p : Int) tp))) := fr_set (l := cuL P (.ref EA) (.ref CA) vp) (hv ▸ hm ▸ F3) rfl rfl
    have offC : CA ≠ I := off3 (CA, listOf vs.toArray n) (hn ▸ .head _)
    have offT : ∀ q ∈ tl, q.1 ≠ I := fun q hq => off3 q (hn ▸ .tail _ (.tail _ hq))
    have gEA := (N3 (EA, listOf xs.toArray nx) (.tail _ (.tail _ (.head _)))).1
    have zall := cut_snoc hall hdrop
    have zlen := cut_len hes hp hi4
    have zd : (dn ++ [(es.getD p 0, es.getD (p + 2) 0)]).length = i + 1 := by rw [List.length_append, hdn]; rfl
    refine hG ?_
    clear hG G hn hm hv hiv off3 hall hS3 hdrop hes hxl hvl hdn
    generalize hkx : es.getD p 0 = kx at hx zall zd
    generalize hky : es.getD (p + 2) 0 = ky at hy zall zd
    k_steps
    unfold Stop
    refine tail_any (PySem.IsL.isList gEA).typeIs slot_list_getitem.lookup (wpAny_getItem_list (PySem.IsL.isList gEA) (by omega) (by omega) (at_natK hx) ?_) (by with_unfolding_all rfl)
    k_steps
    unfold Stop
    refine tail_any (PySem.IsL.isList gEA).typeIs slot_list_getitem.lookup (wpAny_getItem_list (PySem.IsL.isList gEA) (by omega) (by omega) (at_nat2 hy) ?_) (by with_unfolding_all rfl)
    k_steps
    unfold Stop
    rename_i TP hT F4 N4 l14
    refine append_K F4 N4 (upd_of (pre := [(TP, tupO #[.int (kx : Int) ux, .int (ky : Int) uy]), (I, oI)]) (post := (EA, listOf xs.toArray nx) :: tl) (all_cons (Nat.ne_of_gt l14.2.1) (all_cons offC.symm all_nil)) (all_cons hne1 hne2)) ?_ (hsz := by rw [List.size_toArray, sizeLine_eq]; omega)
    intro h5 F5 N5
    rw [List.push_toArray] at N5
    obtain ⟨oT, hoT⟩ : ∃ o, o = tupO #[.int (kx : Int) ux, .int (ky : Int) uy] := ⟨_, rfl⟩
    obtain ⟨NF, hNF, mEA⟩ : ∃ NF, NF = (CA, listOf (vs ++ [Value.ref TP]).toArray (n + 1)) :: (EA, listOf xs.toArray nx) :: tl ∧ (EA, listOf xs.toArray nx) ∈ NF := ⟨_, rfl, .tail _ (.head _)⟩
    replace N5 := show News s.heap L' h5 ((TP, oT) :: (I, oI) :: NF) from hNF ▸ hoT ▸ N5
    k_steps
    unfold Stop
    have g5 := (N5 (EA, listOf xs.toArray nx) (.tail _ (.tail _ mEA))).1
    refine slice_list (s := ⟨_, _, _, _, _⟩) F5 N5 (PySem.IsL.isList g5) .none (.int _ _) ?_ (hsz := by show xs.toArray.size ≤ sizeLine; rw [List.size_toArray, sizeLine_eq]; omega)
    intro h6 F6 N6
    rw [show ((p : Int) + 1) = ((p + 1 : Nat) : Int) from rfl, slicePick_upto'] at N6
    dsimp only at F6 N6 ⊢
    generalize h5.objs.size + 1 = SA at N6 ⊢
    k_steps
    unfold Stop
    have g6 := (N6 (EA, listOf xs.toArray nx) (.tail _ (.tail _ (.tail _ mEA)))).1
    refine slice_list (s := ⟨_, _, _, _, _⟩) F6 N6 (PySem.IsL.isList g6) (.int _ _) .none ?_ (hsz := by show xs.toArray.size ≤ sizeLine; rw [List.size_toArray, sizeLine_eq]; omega)
    intro h7 F7 N7
    rw [show ((p : Int) + 2) = ((p + 2 : Nat) : Int) from rfl, slicePick_from'] at N7
    dsimp only at F7 N7 ⊢
    generalize h6.objs.size + 1 = SC at N7 ⊢
    k_steps
    unfold Stop
    refine add_lists (by k_asm) (by k_asm) (vs := xs.take (p + 1)) (ws := xs.drop (p + 2)) (PySem.IsL.isList (N7 _ (List.mem_cons_of_mem _ List.mem_cons_self)).1) (PySem.IsL.isList (N7 _ List.mem_cons_self).1) ?_ (hsz := by rw [List.length_take, List.length_drop, sizeLine_eq]; omega)
    intro h8 F8 N8
    dsimp only at F8 N8 ⊢
    have lt8 : ∀ q ∈ (TP, oT) :: (I, oI) :: NF, q.1 < h7.objs.size := fun q hq => Heap.lt_size (N7 q (.tail _ (.tail _ hq))).1
    generalize h7.objs.size = SD at N8 lt8 ⊢
    k_steps
    rename_i h9 F9 N9
    refine hR2 _ _ ?_
    dsimp only [FTurn]
    subst hNF
    replace F9 : Fr s.heap L' h9 (CuM P (.ref SD) (.ref CA) (some (.int (p : Int) tp))) := fr_set F9 rfl rfl
    have mT : (TP, tupO #[.int (kx : Int) ux, .int (ky : Int) uy]) ∈ (TP, oT) :: tl := hoT ▸ List.mem_cons_self
    refine FNxt.intro F9 N9 ((CA, listOf (vs ++ [Value.ref TP]).toArray (n + 1)) :: (SD, listOf (xs.take (p + 1) ++ xs.drop (p + 2)).toArray 0) :: (TP, oT) :: tl) (fun _ h => mem_pick (n := 7) (is := [4, 5, 0, 3]) h) (all_cons offC (all_cons (Nat.ne_of_gt (lt8 (I, oI) (.tail _ (.head _)))) (all_cons (Nat.ne_of_gt l14.1) offT))) (.inl ⟨_, hP, rfl, _, rfl⟩)
      ⟨SD, xs.take (p + 1) ++ xs.drop (p + 2), vs ++ [Value.ref TP], 0, n + 1, es.take (p + 1) ++ es.drop (p + 2), dn ++ [(kx, ky)], (TP, oT) :: tl, some (.int (p : Int) tp), rfl, nums_cut hxs, zlen, zd, PairsIn.snoc (hvs.mono fun a o hm => List.mem_cons_of_mem _ hm) mT, zall, Nat.ne_of_gt (lt8 (CA, listOf (vs ++ [Value.ref TP]).toArray (n + 1)) (.tail _ (.tail _ (.head _)))), all_cons (Nat.ne_of_gt l14.2.1) hne2, rfl⟩
end
end Mine
end
section
open PySem PySem.W PySem.Calls PyProof.Rows PyProof.Rows.LCg
set_option maxRecDepth 100000
namespace Mine
section
variable {prog : Program} {w : World} {A : Around} {E : Value → Shared → Prop} {s : Shared}
theorem draw_item {it t : Addr} {i : Nat} {items : Array Value} {x : Value} {Q : Value → Shared → Prop} (hit : s.heap.IsTupleIter it t i) (ht : s.heap.IsTuple t items) (hx : items[i]? = some x)
    (hQ : ∀ h', h'.IsTupleIter it t (i + 1) → Heap.SameBut it s.heap h' → Q x { s with heap := h' }) : wpAny (model prog w) A (Builtin.SmallTypes.nextOf (.ref it)) Q E s := by
  obtain ⟨o, ho, hc, hd⟩ := id hit
  obtain ⟨ot, hot, _, _, hdt⟩ := ht
  unfold Builtin.SmallTypes.nextOf
  refine wpAny_bind (wpAny_callSpecial?_slot (name := Str.ofString "__next__") hit.typeIs F.slot_tuple_iterator_next (wpAny_call_entry F.slot_tuple_iterator_next hit.typeIs F.entry_tuple_iterator_next ?_ (F.args_tuple_iterator_next_1 _)))
  show wpAny _ _ (field (.ref it) 0 >>= _) _ _ s
  refine wpAny_bind (wpAny_field ho hd (x := .ref t) rfl ?_)
  show wpAny _ _ (if (Value.ref t == Value.none) = true then _ else _) _ _ s
  rw [if_neg (show ¬ ((Value.ref t == Value.none) = true) from Bool.false_ne_true)]
  show wpAny _ _ (field (.ref it) 1 >>= _) _ _ s
  refine wpAny_bind (wpAny_field ho hd (x := .int i 0) rfl ?_)
  show wpAny _ _ (seqItems? (.ref t) >>= _) _ _ s
  refine wpAny_bind (wpAny_seqItems hot hdt ?_)
  simp only [Int.toNat_natCast, hx]
  refine wpAny_bind (wpAny_setField ho hd (by simp) (wpAny_pure ⟨x, rfl, wpAny_pure (hQ _ ⟨_, Heap.get?_update_self _ ho (Obj.isFreed_of_fields (Obj.data_mapFields hd _)), (Obj.cls_mapFields ..).trans hc, ?_⟩ (Heap.SameBut.update ..))⟩))
  rw [Obj.data_mapFields hd]; simp [rawInt]
theorem draw_end {it t : Addr} {i : Nat} {items : Array Value} {Q : Value → Shared → Prop} (hh : A.handled = none) (hit : s.heap.IsTupleIter it t i) (ht : s.heap.IsTuple t items) (hx : items[i]? = none)
    (hE : ∀ h' e, Heap.ExtBut it s.heap h' → (∃ o, h'.get? e = some o ∧ o.cls = .type "StopIteration") → E (.ref e) { s with heap := h' }) : wpAny (model prog w) A (Builtin.SmallTypes.nextOf (.ref it)) Q E s := by
  obtain ⟨o, ho, hc, hd⟩ := id hit
  obtain ⟨ot, hot, _, _, hdt⟩ := ht
  unfold Builtin.SmallTypes.nextOf
  refine wpAny_bind (wpAny_callSpecial?_slot (name := Str.ofString "__next__") hit.typeIs F.slot_tuple_iterator_next (wpAny_call_entry F.slot_tuple_iterator_next hit.typeIs F.entry_tuple_iterator_next ?_ (F.args_tuple_iterator_next_1 _)))
  show wpAny _ _ (field (.ref it) 0 >>= _) _ _ s
  refine wpAny_bind (wpAny_field ho hd (x := .ref t) rfl ?_)
  show wpAny _ _ (if (Value.ref t == Value.none) = true then _ else _) _ _ s
  rw [if_neg (show ¬ ((Value.ref t == Value.none) = true) from Bool.false_ne_true)]
  show wpAny _ _ (field (.ref it) 1 >>= _) _ _ s
  refine wpAny_bind (wpAny_field ho hd (x := .int i 0) rfl ?_)
  show wpAny _ _ (seqItems? (.ref t) >>= _) _ _ s
  refine wpAny_bind (wpAny_seqItems hot hdt ?_)
  simp only [Int.toNat_natCast, hx]
  refine wpAny_bind (wpAny_rule (wpAny_bind (wpAny_setField ho hd (by simp) ?_)))
  show wpAny _ _ (newExc (.type "StopIteration") [] >>= _) _ _ _
  refine wpAny_bind ?_
  simp only [newExc, newTuple]
  refine wpAny_bind (wpAny_newObj_type ?_ (by size_fits))
  refine wpAny_bind (m := firstArgMember _ _) (wpAny_of_eq (a := Value.none) (by first | rfl | (simp only [firstArgMember]; rfl)) ?_)
  refine wpAny_newObj_type ?_ (by size_fits)
  simp only [raiseNew]
  refine wpAny_bind (wpAny_handled ?_)
  first | rw [show A.in1.handled = none from hh] | rw [hh]
  refine wpAny_bind (wpAny_pure (wpAny_throw ?_))
  exact hE _ _ (((Heap.SameBut.update ..).extBut.push _).push _) ⟨_, Heap.get?_push_size _ rfl, rfl⟩
end
theorem drawsTuple {prog : Program} {w : World} {A : Around} (hh : A.handled = none) (it t : Addr) (hne : t ≠ it) (items : Array Value) :
    Draws prog w A it [it, t] items.size (fun i v => items[i]? = some v) (fun i h => h.IsTupleIter it t i ∧ h.IsTuple t items) where
  live := fun _ _ st => let ⟨o, e, _⟩ := st.1; ⟨o, e⟩
  frame := fun _ _ _ st hk => ⟨st.1.at fun o e => hk it (by simp) o e, st.2.at fun o e => hk t (by simp) o e⟩
  item := fun i s Q E hi st hQ => draw_item st.1 st.2 (x := items[i]) (by simp [hi]) fun h' hit' hs' => hQ _ h' s.toks (by simp [hi]) ⟨hit', st.2.extBut hs'.extBut hne⟩ hs'
  done := fun s Q E st hE => draw_end hh st.1 st.2 (by simp) hE
structure ZAp (z TI TO i1 i2 l1 l2 : Addr) : Prop where
  TIz : TI ≠ z
  TOz : TO ≠ z
  i1z : i1 ≠ z
  i2z : i2 ≠ z
  TITO : TI ≠ TO
  TIi1 : TI ≠ i1
  TIi2 : TI ≠ i2
  TOi1 : TO ≠ i1
  TOi2 : TO ≠ i2
  i12 : i1 ≠ i2
  l1z : l1 ≠ z
  l1TO : l1 ≠ TO
  l1i1 : l1 ≠ i1
  l1i2 : l1 ≠ i2
  l2z : l2 ≠ z
  l2TO : l2 ≠ TO
  l2i1 : l2 ≠ i1
  l2i2 : l2 ≠ i2
noncomputable def ZSt (z TI TO i1 i2 l1 l2 : Addr) (xs ys : Array Value) (i : Nat) (h : Heap) : Prop :=
  IsZip h z TI TO .none ∧ IsPair h TI (.ref i1) (.ref i2) ∧ (∃ a b, IsPair h TO a b) ∧ (h.IsTupleIter i1 l1 i ∧ h.IsTuple l1 xs) ∧ (h.IsTupleIter i2 l2 i ∧ h.IsTuple l2 ys)
noncomputable def ZMid (z TI TO i1 i2 l1 l2 : Addr) (xs ys : Array Value) (i : Nat) (T : Addr) (h : Heap) : Prop :=
  IsZip h z TI TO (rawInt T) ∧ IsPair h TI (.ref i1) (.ref i2) ∧ (∃ a b, IsPair h TO a b) ∧ (h.IsTupleIter i1 l1 (i + 1) ∧ h.IsTuple l1 xs) ∧ (h.IsTupleIter i2 l2 (i + 1) ∧ h.IsTuple l2 ys) ∧ T ≠ z ∧ T ≠ TO ∧ T ≠ i1 ∧ T ≠ i2
section
variable {prog : Program} {w : World} {A : Around} {E : Value → Shared → Prop} {s : Shared} {z TI TO i1 i2 l1 l2 : Addr} {xs ys : Array Value} {i : Nat}
theorem znext {Q : Value → Shared → Prop} (hh : A.handled = none) (D : ZAp z TI TO i1 i2 l1 l2) (st : ZSt z TI TO i1 i2 l1 l2 xs ys i s.heap) (h1 : i < xs.size) (h2 : i < ys.size)
    (hQ : ∀ T vals h' tk, (∃ x y, xs[i]? = some x ∧ ys[i]? = some y ∧ vals = #[x, y]) → h'.IsTuple T vals → ZMid z TI TO i1 i2 l1 l2 xs ys i T h' → (∀ c o, c ∉ [z, TO, i1, i2] → s.heap.get? c = some o → h'.get? c = some o) → Q (.ref T) { s with heap := h', toks := tk }) :
    wpAny (model prog w) A (Builtin.«zip.__next__» ⟨[.ref z], []⟩) (fun fin s' => ∃ v, fin = .done (.ret v) ∧ Q v s') E s := by
  obtain ⟨hz, hTI, ⟨a, b, hTO⟩, d1, d2⟩ := st
  show wpAny _ _ (field (.ref z) 2 >>= _) _ _ _
  refine wpAny_bind (wpAny_field hz rfl (x := .bool false) rfl ?_)
  show wpAny _ _ (field (.ref z) 3 >>= _) _ _ _
  refine wpAny_bind (wpAny_field hz rfl (x := .ref TI) rfl ?_)
  refine wpAny_bind (wpAny_seqItems hTI rfl ?_)
  show wpAny _ _ (Builtin.SmallTypes.ownedTupleIsFree (.ref z) >>= _) _ _ _
  refine wpAny_bind ?_
  unfold Builtin.SmallTypes.ownedTupleIsFree
  refine wpAny_bind (wpAny_field hz rfl (x := .none) rfl (wpAny_pure ?_))
  simp only [if_true]
  refine wpAny_bind (wpAny_rule ?_)
  refine wpAny_bind (wpAny_field hz rfl (x := .ref TO) rfl ?_)
  refine wpAny_bind (wpAny_setField_rec hz (by simp) fun ha hza sa => ?_)
  replace hza : IsZip ha z TI TO .ellipsis := hza
  have d1a : ha.IsTupleIter i1 l1 i ∧ ha.IsTuple l1 xs := ⟨d1.1.extBut sa.extBut D.i1z, d1.2.extBut sa.extBut D.l1z⟩
  have d2a : ha.IsTupleIter i2 l2 i ∧ ha.IsTuple l2 ys := ⟨d2.1.extBut sa.extBut D.i2z, d2.2.extBut sa.extBut D.l2z⟩
  have hTOa : IsPair ha TO a b := sa.extBut _ _ D.TOz hTO
  refine wpAny_bind ?_
  simp only [List.zipIdx_cons, List.zipIdx_nil, List.forIn_cons, List.forIn_nil]
  refine wpAny_bind (wpAny_bind (wpAny_onRaise ?_))
  show wpAny _ _ (Builtin.SmallTypes.nextOf (.ref i1) >>= _) _ _ _
  refine wpAny_bind ((drawsTuple hh i1 l1 D.l1i1 xs).item i _ _ _ h1 d1a fun x hb tkb hx d1b sb => wpAny_pure ?_)
  replace sb : Heap.SameBut i1 ha hb := sb
  have hzb : IsZip hb z TI TO .ellipsis := sb.extBut _ _ D.i1z.symm hza
  have d2b : hb.IsTupleIter i2 l2 i ∧ hb.IsTuple l2 ys := ⟨d2a.1.extBut sb.extBut D.i12.symm, d2a.2.extBut sb.extBut D.l2i1⟩
  have hTOb : IsPair hb TO a b := sb.extBut _ _ D.TOi1 hTOa
  refine wpAny_bind (wpAny_seqItems hTOb rfl ?_)
  refine wpAny_bind (wpAny_updateSeq_pair hTOb fun hc hTOc sc => ?_)
  replace hTOc : IsPair hc TO x b := hTOc
  replace sc : Heap.SameBut TO hb hc := sc
  have d1c : hc.IsTupleIter i1 l1 (i + 1) ∧ hc.IsTuple l1 xs := ⟨d1b.1.extBut sc.extBut D.TOi1.symm, d1b.2.extBut sc.extBut D.l1TO⟩
  have d2c : hc.IsTupleIter i2 l2 i ∧ hc.IsTuple l2 ys := ⟨d2b.1.extBut sc.extBut D.TOi2.symm, d2b.2.extBut sc.extBut D.l2TO⟩
  have hzc : IsZip hc z TI TO .ellipsis := sc.extBut _ _ D.TOz.symm hzb
  refine wpAny_bind (wpAny_letGo (wpAny_pure ?_))
  refine wpAny_bind (wpAny_bind (wpAny_onRaise ?_))
  show wpAny _ _ (Builtin.SmallTypes.nextOf (.ref i2) >>= _) _ _ _
  refine wpAny_bind ((drawsTuple hh i2 l2 D.l2i2 ys).item i _ _ _ h2 d2c fun y hd tkd hy d2d sd => wpAny_pure ?_)
  replace sd : Heap.SameBut i2 hc hd := sd
  have hzd : IsZip hd z TI TO .ellipsis := sd.extBut _ _ D.i2z.symm hzc
  have d1d : hd.IsTupleIter i1 l1 (i + 1) ∧ hd.IsTuple l1 xs := ⟨d1c.1.extBut sd.extBut D.i12, d1c.2.extBut sd.extBut D.l1i2⟩
  have hTOd : IsPair hd TO x b := sd.extBut _ _ D.TOi2 hTOc
  refine wpAny_bind (wpAny_seqItems hTOd rfl ?_)
  refine wpAny_bind (wpAny_updateSeq_pair hTOd fun he hTOe se => ?_)
  replace hTOe : IsPair he TO x y := hTOe
  replace se : Heap.SameBut TO hd he := se
  have d1e : he.IsTupleIter i1 l1 (i + 1) ∧ he.IsTuple l1 xs := ⟨d1d.1.extBut se.extBut D.TOi1.symm, d1d.2.extBut se.extBut D.l1TO⟩
  have d2e : he.IsTupleIter i2 l2 (i + 1) ∧ he.IsTuple l2 ys := ⟨d2d.1.extBut se.extBut D.TOi2.symm, d2d.2.extBut se.extBut D.l2TO⟩
  have hze : IsZip he z TI TO .ellipsis := se.extBut _ _ D.TOz.symm hzd
  have ke : ∀ c o, c ∉ [z, TO, i1, i2] → s.heap.get? c = some o → he.get? c = some o := fun c o hc e => by
    simp only [List.mem_cons, List.not_mem_nil, or_false, not_or] at hc
    exact se.extBut _ _ hc.2.1 (sd.extBut _ _ hc.2.2.2 (sc.extBut _ _ hc.2.1 (sb.extBut _ _ hc.2.2.1 (sa.extBut _ _ hc.1 e))))
  have hTIe : IsPair he TI (.ref i1) (.ref i2) := ke TI _ (by simp [D.TIz, D.TITO, D.TIi1, D.TIi2]) hTI
  refine wpAny_bind (wpAny_letGo (wpAny_pure (wpAny_pure ?_)))
  refine wpAny_bind (wpAny_seqItems hTOe rfl ?_)
  refine wpAny_bind (wpAny_newTuple ?_)
  have lz : z ≠ he.objs.size := Nat.ne_of_lt (Heap.lt_size hze)
  have lTO : TO ≠ he.objs.size := Nat.ne_of_lt (Heap.lt_size hTOe)
  have l1' : i1 ≠ he.objs.size := by obtain ⟨_, e, _⟩ := d1e.1; exact Nat.ne_of_lt (Heap.lt_size e)
  have l2' : i2 ≠ he.objs.size := by obtain ⟨_, e, _⟩ := d2e.1; exact Nat.ne_of_lt (Heap.lt_size e)
  show wpAny _ _ (Builtin.SmallTypes.ownedTupleHandOut (.ref z) (.ref he.objs.size) >>= _) _ _ _
  refine wpAny_bind ?_
  unfold Builtin.SmallTypes.ownedTupleHandOut
  refine wpAny_bind (wpAny_setField_rec (Heap.get?_push_of_some _ hze) (by simp) fun hf hzf sf => ?_)
  replace hzf : IsZip hf z TI TO (rawInt he.objs.size) := hzf
  refine wpAny_setField_rec hzf (by simp) fun hg hzg sg => ?_
  replace hzg : IsZip hg z TI TO (rawInt he.objs.size) := hzg
  replace sf : Heap.SameBut z (he.push _) hf := sf
  replace sg : Heap.SameBut z hf hg := sg
  have up : ∀ c o, c ≠ z → he.get? c = some o → hg.get? c = some o := fun c o hc e => sg.extBut _ _ hc (sf.extBut _ _ hc (Heap.get?_push_of_some _ e))
  refine wpAny_pure ⟨_, rfl, hQ he.objs.size #[x, y] hg _ ⟨x, y, hx, hy, rfl⟩ ⟨_, sg.extBut _ _ lz.symm (sf.extBut _ _ lz.symm (Heap.get?_push_size _ rfl)), rfl, _, rfl⟩
    ⟨hzg, up _ _ D.TIz hTIe, ⟨x, y, up _ _ D.TOz hTOe⟩, ⟨d1e.1.at fun o e => up _ o D.i1z e, d1e.2.at fun o e => up _ o D.l1z e⟩, ⟨d2e.1.at fun o e => up _ o D.i2z e, d2e.2.at fun o e => up _ o D.l2z e⟩, lz.symm, lTO.symm, l1'.symm, l2'.symm⟩
    fun c o hc e => up c o (fun q => hc (by simp [q])) (ke c o hc e)⟩
theorem zend {Q : Fin → Shared → Prop} (hh : A.handled = none) (D : ZAp z TI TO i1 i2 l1 l2) (st : ZSt z TI TO i1 i2 l1 l2 xs ys i s.heap) (h1 : xs[i]? = none)
    (hE : ∀ h' e, (∀ c o, c ∉ [z, TO, i1, i2] → s.heap.get? c = some o → h'.get? c = some o) → (∃ o, h'.get? e = some o ∧ o.cls = .type "StopIteration") → E (.ref e) { s with heap := h' }) :
    wpAny (model prog w) A (Builtin.«zip.__next__» ⟨[.ref z], []⟩) Q E s := by
  obtain ⟨hz, hTI, ⟨a, b, hTO⟩, d1, d2⟩ := st
  show wpAny _ _ (field (.ref z) 2 >>= _) _ _ _
  refine wpAny_bind (wpAny_field hz rfl (x := .bool false) rfl ?_)
  show wpAny _ _ (field (.ref z) 3 >>= _) _ _ _
  refine wpAny_bind (wpAny_field hz rfl (x := .ref TI) rfl ?_)
  refine wpAny_bind (wpAny_seqItems hTI rfl ?_)
  show wpAny _ _ (Builtin.SmallTypes.ownedTupleIsFree (.ref z) >>= _) _ _ _
  refine wpAny_bind ?_
  unfold Builtin.SmallTypes.ownedTupleIsFree
  refine wpAny_bind (wpAny_field hz rfl (x := .none) rfl (wpAny_pure ?_))
  simp only [if_true]
  refine wpAny_bind (wpAny_rule ?_)
  refine wpAny_bind (wpAny_field hz rfl (x := .ref TO) rfl ?_)
  refine wpAny_bind (wpAny_setField_rec hz (by simp) fun ha hza sa => ?_)
  replace hza : IsZip ha z TI TO .ellipsis := hza
  refine wpAny_bind ?_
  simp only [List.zipIdx_cons, List.zipIdx_nil, List.forIn_cons, List.forIn_nil]
  refine wpAny_bind (wpAny_bind (wpAny_onRaise ?_))
  show wpAny _ _ (Builtin.SmallTypes.nextOf (.ref i1) >>= _) _ _ _
  refine wpAny_bind (draw_end hh (d1.1.extBut sa.extBut D.i1z) (d1.2.extBut sa.extBut D.l1z) h1 fun hb e sb he => ?_)
  obtain ⟨oe, hoe, hce⟩ := he
  have hzb : IsZip hb z TI TO .ellipsis := sb _ _ D.i1z.symm hza
  have hez : e ≠ z := fun x => by subst x; rw [hzb] at hoe; cases hoe; simp at hce
  refine wpAny_setField_rec hzb (by simp) fun hc _ sc => hE hc e (fun c o hc' x => ?_) ⟨oe, sc.extBut _ _ hez hoe, hce⟩
  simp only [List.mem_cons, List.not_mem_nil, or_false, not_or] at hc'
  exact sc.extBut _ _ hc'.1 (sb _ _ hc'.2.2.1 (sa.extBut _ _ hc'.1 x))
end
theorem zwalks {prog : Program} {w : World} {A : Around} (hh : A.handled = none) {z TI TO i1 i2 l1 l2 : Addr} {xs ys : Array Value} (D : ZAp z TI TO i1 i2 l1 l2) (hn : xs.size = ys.size) :
    WalksU prog w A z [z, TI, TO, i1, i2, l1, l2] [z, TO, i1, i2] xs.size (fun i vals => ∃ x y, xs[i]? = some x ∧ ys[i]? = some y ∧ vals = #[x, y]) (ZSt z TI TO i1 i2 l1 l2 xs ys) (ZMid z TI TO i1 i2 l1 l2 xs ys) where
  sub := fun c hc => by simp at hc ⊢; rcases hc with rfl | rfl | rfl | rfl <;> simp
  frame := fun i h h' st hk => by
    obtain ⟨hz, hTI, ⟨a, b, hTO⟩, d1, d2⟩ := st
    exact ⟨hk z (by simp) _ hz, hk TI (by simp) _ hTI, ⟨a, b, hk TO (by simp) _ hTO⟩, ⟨d1.1.at fun o e => hk i1 (by simp) o e, d1.2.at fun o e => hk l1 (by simp) o e⟩, ⟨d2.1.at fun o e => hk i2 (by simp) o e, d2.2.at fun o e => hk l2 (by simp) o e⟩⟩
  item := fun i s Q E hi st hQ => by
    have hT : s.TypeIs (.ref z) "zip" := ⟨_, st.1, rfl⟩
    unfold pyNext
    exact wpAny_bind (wpAny_attempt (wpAny_callSpecial?_slot (name := Str.ofString "__next__") hT F.slot_zip_next (wpAny_call_entry F.slot_zip_next hT F.entry_zip_next
      (znext (by first | exact hh | rfl) D st hi (hn ▸ hi) fun T vals h' tk hv ht hm hk => wpAny_pure (hQ T vals h' tk hv ht hm hk)) (F.args_zip_next_1 _))))
  go := fun elts k pos i T s Q E hm hQ => by
    obtain ⟨hz, hTI, ⟨a, b, hTO⟩, d1, d2, _⟩ := hm
    refine wpAny_letOwnedTupleGo_zip hz fun h' hz' hs' => hQ h' ⟨hz', hs'.extBut _ _ D.TIz hTI, ⟨a, b, hs'.extBut _ _ D.TOz hTO⟩, ⟨d1.1.extBut hs'.extBut D.i1z, d1.2.extBut hs'.extBut D.l1z⟩, ⟨d2.1.extBut hs'.extBut D.i2z, d2.2.extBut hs'.extBut D.l2z⟩⟩ fun c o hc e => hs'.extBut _ _ (fun x => hc (by simp [x])) e
  apart := fun i T h hm hT => by
    obtain ⟨_, _, _, _, _, t1, t2, t3, t4⟩ := hm
    simp only [List.mem_cons, List.not_mem_nil, or_false] at hT
    rcases hT with h | h | h | h
    · exact t1 h
    · exact t2 h
    · exact t3 h
    · exact t4 h
  done := fun s Q E st hQ => by
    have hT : s.TypeIs (.ref z) "zip" := ⟨_, st.1, rfl⟩
    unfold pyNext
    refine wpAny_bind (wpAny_attempt (wpAny_callSpecial?_slot (name := Str.ofString "__next__") hT F.slot_zip_next (wpAny_call_entry F.slot_zip_next hT F.entry_zip_next
      (zend (by first | exact hh | rfl) D st (by simp) fun h' e hk he => ?_) (F.args_zip_next_1 _))))
    obtain ⟨o, ho, hc⟩ := he
    exact wpAny_bind (wpAny_isInstance (T := "StopIteration") (b := true) ⟨o, ho, hc⟩ isSubtype_stop (wpAny_pure (hQ _ s.toks hk)))
  self := fun i s Q E st hQ => wpAny_pyIter_zip st.1 hQ
section
variable {prog : Program} {w : World} {A : Around} {E : Value → Shared → Prop} {s : Shared}
theorem zip_laid {hp : Heap} {l1 l2 : Addr} {xs ys : Array Value} {R : Addr → Heap → Prop} (hl1 : hp.IsTuple l1 xs) (hl2 : hp.IsTuple l2 ys)
    (h : ∀ h' z TI TO i1 i2, hp.objs.size ≤ z → hp.objs.size ≤ TO → hp.objs.size ≤ i1 → hp.objs.size ≤ i2 → ZAp z TI TO i1 i2 l1 l2 → ZSt z TI TO i1 i2 l1 l2 xs ys 0 h' → (∀ b o, hp.get? b = some o → h'.get? b = some o) → R z h') :
    let h1 := hp.push { cls := .type "tuple_iterator", data := .fields #[.ref l1, .int 0 0] }
    let h2 := h1.push { cls := .type "tuple_iterator", data := .fields #[.ref l2, .int 0 0] }
    let h3 := h2.push { cls := .type "tuple", data := .seq #[.ref hp.objs.size, .ref h1.objs.size] }
    let h4 := h3.push { cls := .type "tuple", data := .seq #[.none, .none] }
    let h5 := h4.push { cls := .type "zip", data := .fields #[.none, .bool false, .bool false, .ref h2.objs.size, .ref h3.objs.size] }
    R h4.objs.size h5 := by
  intro h1 h2 h3 h4 h5
  have z1 : h1.objs.size = hp.objs.size + 1 := Heap.size_push ..
  have z2 : h2.objs.size = hp.objs.size + 2 := (Heap.size_push ..).trans (by rw [z1])
  have z3 : h3.objs.size = hp.objs.size + 3 := (Heap.size_push ..).trans (by rw [z2])
  have z4 : h4.objs.size = hp.objs.size + 4 := (Heap.size_push ..).trans (by rw [z3])
  have k45 : ∀ {b : Addr} {o : Obj}, h4.get? b = some o → h5.get? b = some o := fun e => Heap.get?_push_of_some _ e
  have k35 : ∀ {b : Addr} {o : Obj}, h3.get? b = some o → h5.get? b = some o := fun e => k45 (Heap.get?_push_of_some _ e)
  have k25 : ∀ {b : Addr} {o : Obj}, h2.get? b = some o → h5.get? b = some o := fun e => k35 (Heap.get?_push_of_some _ e)
  have k15 : ∀ {b : Addr} {o : Obj}, h1.get? b = some o → h5.get? b = some o := fun e => k25 (Heap.get?_push_of_some _ e)
  have k05 : ∀ b o, hp.get? b = some o → h5.get? b = some o := fun b o e => k15 (Heap.get?_push_of_some _ e)
  have a1 : @LT.lt Nat _ l1 hp.objs.size := by obtain ⟨_, e, _⟩ := hl1; exact Heap.lt_size e
  have a2 : @LT.lt Nat _ l2 hp.objs.size := by obtain ⟨_, e, _⟩ := hl2; exact Heap.lt_size e
  refine h h5 h4.objs.size h2.objs.size h3.objs.size hp.objs.size h1.objs.size (by rw [z4]; omega) (by rw [z3]; omega) (Nat.le_refl _) (by rw [z1]; omega) ?_ ⟨Heap.get?_push_size _ rfl, k35 (Heap.get?_push_size _ rfl), ⟨_, _, k45 (Heap.get?_push_size _ rfl)⟩, ⟨⟨_, k15 (Heap.get?_push_size _ rfl), rfl, rfl⟩, hl1.at fun o e => k05 _ o e⟩, ⟨⟨_, k25 (Heap.get?_push_size _ rfl), rfl, rfl⟩, hl2.at fun o e => k05 _ o e⟩⟩ k05
  generalize h4.objs.size = q4 at z4 ⊢
  generalize h3.objs.size = q3 at z3 ⊢
  generalize h2.objs.size = q2 at z2 ⊢
  generalize h1.objs.size = q1 at z1 ⊢
  generalize hp.objs.size = q0 at *
  constructor <;> (refine neN ?_; omega)
theorem zip_new (l1 l2 : Addr) (xs ys : Array Value) :
    Meets (Builtin.«zip.__new__» ⟨[.type "zip", .ref l1, .ref l2], []⟩) (fun _ R s => s.heap.IsTuple l1 xs ∧ s.heap.IsTuple l2 ys ∧
      ∀ h' z TI TO i1 i2, s.heap.objs.size ≤ z → s.heap.objs.size ≤ TO → s.heap.objs.size ≤ i1 → s.heap.objs.size ≤ i2 → ZAp z TI TO i1 i2 l1 l2 → ZSt z TI TO i1 i2 l1 l2 xs ys 0 h' → (∀ b o, s.heap.get? b = some o → h'.get? b = some o) → R (.ok (.ret (.ref z))) { s with heap := h' }) :=
  .of_wp fun prog w A R s h => by
    obtain ⟨hp, g, d, tk, os⟩ := s; obtain ⟨hl1, hl2, h⟩ := h
    have hsub := sub_zip
    have hL1 : Heap.IsTuple (Shared.heap ⟨hp, g, d, tk, os⟩) l1 xs := hl1
    have hL2 : Heap.IsTuple (Shared.heap ⟨hp.push { cls := .type "tuple_iterator", data := .fields #[.ref l1, .int 0 0] }, g, d, tk, os⟩) l2 ys := Heap.IsTuple.push hl2 _
    wp_walk using wpAny_pyIter_tuple hL1, wpAny_pyIter_tuple hL2
    refine ⟨_, rfl, ?_⟩
    exact zip_laid hl1 hl2 h
theorem call_zip {l1 l2 : Addr} {xs ys : Array Value} {Q : Value → Shared → Prop} (hl1 : s.heap.IsTuple l1 xs) (hl2 : s.heap.IsTuple l2 ys)
    (h : ∀ h' z TI TO i1 i2, s.heap.objs.size ≤ z → s.heap.objs.size ≤ TO → s.heap.objs.size ≤ i1 → s.heap.objs.size ≤ i2 → ZAp z TI TO i1 i2 l1 l2 → ZSt z TI TO i1 i2 l1 l2 xs ys 0 h' → (∀ b o, s.heap.get? b = some o → h'.get? b = some o) → Q (.ref z) { s with heap := h' }) :
    wpAny (model prog w) A (call (.type "zip") [.ref l1, .ref l2]) Q E s :=
  callType_new F.called_zip (by decide) (F.typeCall_zip_2 _ _) (F.newCall_zip_2 _ _) (fun obj => F.args_object_init_3 obj _ _) F.entry_zip_new
    (zip_new l1 l2 xs ys) ⟨hl1, hl2, fun h' z TI TO i1 i2 a1 a2 a3 a4 D st hk => ⟨⟨_, st.1, rfl⟩, h h' z TI TO i1 i2 a1 a2 a3 a4 D st hk⟩⟩
end
end Mine
end
section
open PySem PySem.W PySem.Calls PyProof.Rows PyProof.Rows.LCg
set_option maxRecDepth 100000
namespace Mine
theorem passing_all {n : Nat} : passing (fun _ => true) n 0 = List.range n := by
  unfold passing; simp
section
variable {prog : Program} {w : World} {A : Around} {E : Value → Shared → Prop} {s : Shared} {h₁ h₀ : Heap} {c P L : Addr} {ps : Array Value} {m mg : Str → Option Value} {bm : Addr} {ob : Obj}
theorem genCode {env : Env} {pos : Pos} {q : Str} {scope : Scope} {Q : Value → Shared → Prop} (hc : env.code = .ref c) (hok : s.heap.IsCode c P ps) (ht : s.heap.TableAt c P ps)
    (hQ : ∀ code h' tk more, Heap.ExtBut P s.heap h' → s.heap.objs.size ≤ h'.objs.size → h'.IsCode c P (ps ++ more) → h'.TableAt c P (ps ++ more) → Q code { s with heap := h', toks := tk }) :
    wpAny (model prog w) A (genexprCode env pos q scope) Q E s := by
  cases hnf : codeAmong pos ps.toList with
  | none => exact wpAny_genexprCodeX hc hok ht hnf fun c' h' tk hx hge hlt hc' _ ht' _ => hQ (.ref c') h' tk _ hx (Nat.le_trans hge (Nat.le_of_lt hlt)) hc' ht'
  | some cv =>
    have e0 : ps ++ #[] = ps := by simp
    have done := hQ cv s.heap s.toks #[] (Heap.ExtBut.refl _ _) (Nat.le_refl _) (by rw [e0]; exact hok) (by rw [e0]; exact ht)
    obtain ⟨o, vs, file, tf, flags, tg, inF, text, tt, op, ho, hd, h11, h2, h7, h9, h10, hop, hpd, htr, hne⟩ := id hok
    unfold genexprCode codeAt
    rw [hc, if_neg (show ¬ ((Value.ref c == Value.none) = true) from Bool.false_ne_true)]
    refine wpAny_bind (wpAny_fieldsOf ho hd ?_)
    rw [h11]
    refine wpAny_bind (wpAny_fieldsOf hop hpd ?_)
    rw [hnf]
    exact wpAny_pure done
theorem gen_zip {env : Env} {elt iter : PySem.Expr} {xa xb : Str} {pa pb pt : Pos} {kt : Nat} {scope : Scope} {cl : List (Str × Addr)} {pos : Pos} {Q : Value → Shared → Prop} {l1 l2 : Addr} {xs ys : Array Value} {G : Nat → Value → Prop}
    (hcode : env.code = .ref c) (hh : A.handled = none) (hco : scope.isCoroutine = false) (hclos : closureFor scope env = pure cl) (hcell : ∀ y ∈ scope.names, y.2 ≠ .cell) (h0 : scope.names.lookup (".0" : Str) = some NameKind.local)
    (hxa : scope.names.lookup xa = some .local) (hxb : scope.names.lookup xb = some .local) (hab : xa ≠ xb) (hkind : scope.kind = .function) (hroom : A.depth < recursionLimit)
    (F : Fr h₀ L s.heap m) (B : Based h₁ h₀ c P ps) (M : BMod h₀ env.globals mg bm ob) (hlim : h₀.NoLimit) (hbare : AllBare s.gens) (hn : xs.size = ys.size) (hl1 : s.heap.IsTuple l1 xs) (hl2 : s.heap.IsTuple l2 ys)
    (hiter : ∀ Q' : Value → Shared → Prop, (∀ h' tk z TI TO i1 i2, s.heap.objs.size ≤ z → s.heap.objs.size ≤ TO → s.heap.objs.size ≤ i1 → s.heap.objs.size ≤ i2 → ZAp z TI TO i1 i2 l1 l2 → ZSt z TI TO i1 i2 l1 l2 xs ys 0 h' → (∀ b o, s.heap.get? b = some o → h'.get? b = some o) → Q' (.ref z) { s with heap := h', toks := tk }) →
      wpAny (model prog w) A (eval iter env) Q' E s)
    (helt : ∀ (code : Value) (C : Addr) (A' : Around) (E' : Value → Shared → Prop) (i : Nat) (va vb : Value) (t : Shared) (m₂ : Str → Option Value), A'.handled = none → xs[i]? = some va → ys[i]? = some vb → t.heap.Ns C m₂ → m₂ xa = some va → m₂ xb = some vb →
      wpAny (model prog w) A' (eval elt (genEnv scope cl C code builtinsNs env)) (fun y s₃ => G i y ∧ Keeps t s₃) E' t)
    (hQ : ∀ a s₅ more, Based h₁ (regrown h₀ P (ps ++ more)) c P (ps ++ more) → Fr (regrown h₀ P (ps ++ more)) L s₅.heap m → AllBare s₅.gens → s₅.os = s.os → (∀ b o, b ≠ P → s.heap.get? b = some o → s₅.heap.get? b = some o) →
      Gen prog w A (s.heap.objs.size - 1) a xs.size G s₅ → Q (.ref a) s₅)
    (hs : ∀ x, genFold iter env x = pure x) :
    wpAny (model prog w) A (eval (.GeneratorExp elt [⟨.Tuple [.Name xa pa, .Name xb pb] kt pt, iter, [], 0⟩] scope pos) env) Q E s := by
  have hpos : 0 < s.heap.objs.size := Nat.lt_of_le_of_lt (Nat.zero_le _) F.ns.lt
  refine wpAny_GeneratorExp_walksQTD hh hco hclos hcell h0 hxa hxb hab hkind hroom (hiter _ fun h' tk z TI TO i1 i2 gz gTO g1 g2 D st hk => ?_) hs
  have W := fun (A' : Around) (hA : A'.handled = none) => zwalks (prog := prog) (w := w) (A := A') hA D hn
  refine (W A hh).self 0 _ _ _ st ?_
  have F₂ : Fr h₀ L h' m := F.keeps hk
  have hlim₂ : h'.NoLimit := hlim.keeps F₂.keep
  have htab := B.tabAt F
  have hPlt : P < s.heap.objs.size := Heap.lt_size htab.2
  refine ⟨hlim₂, genCode hcode (B.codeAt F₂) (B.tabAt F₂) fun code h₃ tk₃ more hx₃ hsz₃ hcode₃ htab₃ => ?_⟩
  dsimp only at hx₃ hsz₃
  obtain ⟨B₃, F₃⟩ := B.grow F₂ hx₃ hcode₃ htab₃
  have M₃ : BMod h₃ env.globals mg bm ob := (M.keeps F₂.keep).extBut (B.tabAt F₂) hx₃
  have hcP : cStatics ≠ P := fun e => B.notStatics e.symm
  have hl₃ : h₃.NoLimit := hlim₂.extBut hx₃ hcP
  have hst0 : cStatics < s.heap.objs.size := let ⟨_, hns, _⟩ := (hlim.keeps F.keep); hns.lt
  have hPn : P ∉ [z, TI, TO, i1, i2, l1, l2] := by
    have h'tab : h'.get? P = some { cls := .none, data := .fields ps } := hk _ _ htab.2
    intro hm
    simp only [List.mem_cons, List.not_mem_nil, or_false] at hm
    obtain ⟨hz, hTI, ⟨a, b, hTO⟩, d1, d2⟩ := st
    rcases hm with e | e | e | e | e | e | e
    · rw [e] at h'tab; cases hz.symm.trans h'tab
    · rw [e] at h'tab; cases hTI.symm.trans h'tab
    · rw [e] at h'tab; cases hTO.symm.trans h'tab
    · obtain ⟨o, ho, hc, _⟩ := d1.1; rw [e] at h'tab; rw [ho] at h'tab; cases h'tab; cases hc
    · obtain ⟨o, ho, hc, _⟩ := d2.1; rw [e] at h'tab; rw [ho] at h'tab; cases h'tab; cases hc
    · obtain ⟨o, ho, hc, _⟩ := d1.2; rw [e] at h'tab; rw [ho] at h'tab; cases h'tab; cases hc
    · obtain ⟨o, ho, hc, _⟩ := d2.2; rw [e] at h'tab; rw [ho] at h'tab; cases h'tab; cases hc
  refine wpAny_builtinsFor M₃.ns M₃.name M₃.ne M₃.obj M₃.cls M₃.dict M₃.data ?_
  have hle : s.heap.objs.size ≤ h'.objs.size := Nat.le_of_not_lt fun hlt => by
    have := F₂.ns.lt
    have hz : @LT.lt Nat _ z h'.objs.size := Heap.lt_size st.1
    exact absurd gz (Nat.not_le.mpr (Nat.lt_trans hz hlt))
  refine ⟨z, [z, TI, TO, i1, i2, l1, l2], [z, TO, i1, i2], xs.size, _, ZSt z TI TO i1 i2 l1 l2 xs ys, ZMid z TI TO i1 i2 l1 l2 xs ys, fun _ => true, G, rfl, W, (fun i vals hv => by obtain ⟨x, y, _, _, e⟩ := hv; exact ⟨x, y, e⟩), (W A hh).frame _ _ _ st (fun b hb o e => hx₃ b o (fun e' => hPn (e' ▸ hb)) e), ?_, hl₃, ?_, ?_, ?_⟩
  · intro b hb
    show b < h₃.objs.size
    have lt : ∀ {b : Addr} {o : Obj}, h'.get? b = some o → b < h₃.objs.size := fun e => Nat.lt_of_lt_of_le (Heap.lt_size e) hsz₃
    obtain ⟨hz, hTI, ⟨a, b', hTO⟩, d1, d2⟩ := st
    simp only [List.mem_cons, List.not_mem_nil, or_false] at hb
    rcases hb with rfl | rfl | rfl | rfl | rfl | rfl | rfl
    · exact lt hz
    · exact lt hTI
    · exact lt hTO
    · obtain ⟨_, e, _⟩ := d1.1; exact lt e
    · obtain ⟨_, e, _⟩ := d2.1; exact lt e
    · obtain ⟨_, e, _⟩ := d1.2; exact lt e
    · obtain ⟨_, e, _⟩ := d2.2; exact lt e
  · intro hm
    simp only [List.mem_cons, List.not_mem_nil, or_false] at hm
    rcases hm with e | e | e | e
    · rw [← e] at gz; exact absurd hst0 (Nat.not_lt.mpr gz)
    · rw [← e] at gTO; exact absurd hst0 (Nat.not_lt.mpr gTO)
    · rw [← e] at g1; exact absurd hst0 (Nat.not_lt.mpr g1)
    · rw [← e] at g2; exact absurd hst0 (Nat.not_lt.mpr g2)
  · intro href hhref
    refine ⟨fun A' E' i va vb t m₂ hA hD hU hP hns hma hmb hkp => ?_, fun A' E' i va vb t m₂ hA hD hU hP _ hns hma hmb hkp => ?_⟩
    · show wpAny _ A' (pure true) _ _ _
      exact wpAny_pure ⟨rfl, ⟨_, _, rfl, fun _ _ e => e⟩⟩
    · obtain ⟨x, y, hx, hy, e⟩ := hP
      obtain ⟨rfl, rfl⟩ : va = x ∧ vb = y := by simpa using congrArg Array.toList e
      exact helt code _ A' E' i va vb t m₂ hA hx hy hns hma hmb
  · intro a h₅ tk gs hgb hag hsz₅ hk₅ Ws hat
    refine hQ a _ more B₃ (F₃.keeps hk₅) (hbare.push hgb) rfl (fun b o hb e => hk₅ b o (hx₃ b o hb (hk b o e))) ?_
    rw [passing_all, List.length_range] at Ws
    refine Gen.imp ⟨_, _, _, _, Ws, hat, (fun i s' st => st.1.typeIs), List.mem_cons_self, ?_, ?_⟩ fun j y hy => ?_
    · intro b hb
      show b < h₅.objs.size
      rw [hsz₅]
      rcases List.mem_cons.mp hb with rfl | hb
      · exact Nat.lt_succ_self _
      · rcases List.mem_cons.mp hb with rfl | hb
        · exact Nat.lt_succ_of_lt hag
        · exact Nat.lt_succ_of_lt (Nat.lt_trans (List.mem_range.mp hb) hag)
    · intro b hb
      have go : ∀ x : Addr, s.heap.objs.size ≤ x → s.heap.objs.size - 1 < x := fun x hx => Nat.lt_of_lt_of_le (Nat.sub_lt hpos Nat.one_pos) hx
      simp only [List.mem_cons, List.not_mem_nil, or_false] at hb
      rcases hb with rfl | rfl | rfl | rfl | rfl
      · exact go _ (Nat.le_trans hle hsz₃)
      · exact go _ gz
      · exact go _ gTO
      · exact go _ g1
      · exact go _ g2
    · obtain ⟨i, hi, hy⟩ := hy
      obtain ⟨hlt, e⟩ := List.getElem?_eq_some_iff.mp hi
      rw [List.getElem_range] at e
      subst e
      exact hy
theorem gen_tuple {K a : Addr} {n : Nat} {G : Nat → Value → Prop} {Q : Value → Shared → Prop} (F : Fr h₀ L s.heap m) (hbare : AllBare s.gens) (X : Gen prog w A K a n G s) (hLK : L ≤ K) (hn : n ≤ 1000)
    (hQ : ∀ s' (D : Addr) (acc : Array Value), Fr h₀ L s'.heap m → AllBare s'.gens → s'.os = s.os → (∀ b o, b ≤ K → s.heap.get? b = some o → s'.heap.get? b = some o ∧ b ≠ D) → D ≠ L → h₀.get? D = none → s'.heap.get? D = some { cls := .type "tuple", data := .seq acc } →
      acc.size = n → (∀ j v, acc[j]? = some v → G j v) → Q (.ref D) s') : wpAny (model prog w) A (call (.type "tuple") [.ref a]) Q E s := by
  obtain ⟨fp, wr, g, St, W, hst, hT, hI, hfp, hwr⟩ := X
  refine call_tuple_gen (hsz := by rw [sizeLine_eq]; omega) W.in4_3 hT hst hfp hI fun s' acc hm hacc => ?_
  have F₁ : Fr h₀ L s'.heap m := F.moved hm fun b hb => Nat.lt_of_le_of_lt hLK (hwr b hb)
  have G₁ : AllBare s'.gens := hbare.movedS hm
  refine hQ _ _ acc (F₁.push _) G₁ hm.os (fun b o hb e => ?_) (Nat.ne_of_gt F₁.ns.lt) ?_ (Heap.get?_push_size _ rfl) hacc.1 hacc.2
  · have e' := hm.heap b o (fun hmem => Nat.lt_irrefl _ (Nat.lt_of_lt_of_le (hwr b hmem) hb)) e
    exact ⟨Heap.get?_push_of_some _ e', Nat.ne_of_lt (Heap.lt_size e')⟩
  · cases e : h₀.get? s'.heap.objs.size with
    | none => rfl
    | some o => exact absurd (Heap.lt_size (F₁.keep _ _ e)) (Nat.lt_irrefl _)
theorem el_sum {scope : Scope} {cl : List (Str × Addr)} {code : Value} {C : Addr} {env : Env} {x y : Str} {p1 p2 p3 : Pos} {a b : Int} {t u : Tok} {m₂ : Str → Option Value} (hn : s.heap.Ns C m₂) (hx : m₂ x = some (.int a t)) (hy : m₂ y = some (.int b u))
    (hk : scope.kind = .function) (kx : (genEnv scope cl C code builtinsNs env).kindOf x = some .local) (ky : (genEnv scope cl C code builtinsNs env).kindOf y = some .local) (dx : (x == ("__debug__" : Str)) = false) (dy : (y == ("__debug__" : Str)) = false) :
    wpAny (model prog w) A (eval (.BinOp (.Name x p1) .Add (.Name y p2) p3) (genEnv scope cl C code builtinsNs env)) (fun v s₃ => (∃ t, v = .int (a + b) t) ∧ Keeps s s₃) E s := by
  refine wpAny_BinOp (wpAny_Name (wpAny_loadName_local hk kx hn hx (wpAny_Name (wpAny_loadName_local hk ky hn hy ?_) dy)) dx)
  exact wpAny_add_int ⟨⟨_, rfl⟩, _, _, rfl, fun _ _ e => e⟩
end
end Mine
end
section
open PySem PySem.W PySem.Calls PyProof.Rows PyProof.Rows.LCg
set_option maxRecDepth 100000
namespace Mine
noncomputable abbrev noHeap : Heap := {}
theorem noHeap_get (b : Addr) : noHeap.get? b = none := by
  unfold Heap.get?
  show (match (#[] : Array Obj)[b]? with | some ⟨_, _, .freed, _⟩ => none | o => o) = none
  simp
noncomputable def noTop : Program := { main := { body := [.Import [{ name := Str.ofString "sys", asname := none, pos := ⟨0, 0, 0, 0⟩ }] ⟨0, 0, 0, 0⟩], futureAnnotations := false, file := Str.ofString "", scope := { kind := .module, names := [], isGenerator := false, isCoroutine := false } }, modules := [], parses := [], absent := [] }
section
variable {h₁ h₀ : Heap} {c P : Addr} {ps ps' : Array Value}
theorem below_grown {A : Around} {base : Heap} {outer : List Env} (B : Based h₁ h₀ c P ps) (K : Below A base outer h₀) : Below A noHeap outer (regrown h₀ P ps') := by
  refine ⟨K.stack, fun b o e => (by rw [noHeap_get] at e; cases e), ?_⟩
  have go : ∀ l : List Env, h₀.FunFrames base l → (regrown h₀ P ps').FunFrames noHeap l := by
    intro l
    induction l with
    | nil => intro _; trivial
    | cons env rest ih =>
      rintro ⟨hk, ⟨L, o, hf, _, ho, hd⟩, hr⟩
      have hne : L ≠ P := fun e => by rw [e, B.tab.2] at ho; cases ho; exact hd _ rfl
      exact ⟨hk, ⟨L, o, hf, noHeap_get _, (Heap.get?_update_other _ _ (Ne.symm hne)).trans ho, hd⟩, ih hr⟩
  exact go _ K.frames
theorem ns_grown (B : Based h₁ h₀ c P ps) {a : Addr} {m : Str → Option Value} (G : h₀.Ns a m) : (regrown h₀ P ps').Ns a m := LGe.ns_regrown B G
theorem top_grown {tp : Program} {lo : List Str} {mean : ExcName → Option Value} {mg mb : Str → Option Value} (B : Based h₁ h₀ c P ps) (T : Top tp lo mean mg mb h₀) : ∃ tp' lo', Top tp' lo' mean mg mb (regrown h₀ P ps') := by
  refine ⟨noTop, lo ++ ((recsOf tp).map (·.name) ++ ((litsOf tp).map (·.1) ++ (clssOf tp lo).map (·.name))), ns_grown B T.g, ns_grown B T.b, ?_, ?_, ?_, ?_, ?_, ?_, T.builtins, ?_, ?_, ?_⟩
  · obtain ⟨mc, h1, h2⟩ := T.nolimit; exact ⟨mc, ns_grown B h1, h2⟩
  · obtain ⟨mc, h1, h2⟩ := T.nodigits; exact ⟨mc, ns_grown B h1, h2⟩
  · intro d hd
    have : recsOf noTop = [] := by rfl
    rw [this] at hd; cases hd
  · intro o ho
    have : ownsOf noTop = [] := by rfl
    rw [this] at ho; cases ho
  · intro x d hd
    have : valOf noTop x = none := by rfl
    rw [this] at hd; cases hd
  · intro x h1 h2 _ _ _
    simp only [List.mem_append, not_or] at h2
    exact T.free x h1 h2.1 h2.2.1 h2.2.2.1 h2.2.2.2
  · intro d hd
    have : recsOf noTop = [] := by rfl
    rw [this] at hd; cases hd
  · obtain ⟨bm, ob, a1, a2, a3, a4, a5, a6⟩ := T.bmain
    have hne : bm ≠ P := fun e => by rw [e, B.tab.2] at a3; cases a3; cases a4
    exact ⟨bm, ob, a1, a2, (Heap.get?_update_other _ _ (Ne.symm hne)).trans a3, a4, a5, a6⟩
  · intro h
    exact absurd h (by decide)
end
structure Grown (c P : Addr) (ps : Array Value) (s s' : Shared) (more : Array Value) : Prop where
  keep : Heap.ExtBut P s.heap s'.heap
  code : s'.heap.IsCode c P (ps ++ more)
  tab : s'.heap.TableAt c P (ps ++ more)
  bare : AllBare s'.gens
  os : s'.os = s.os
noncomputable def ConG (w : World) (dp un : Nat) (f : Addr) (args : List Value) (c P : Addr) (ps : Array Value) (pre : Heap → Prop) (post : Value → List (Addr × Obj) → Prop) : Prop :=
  ∀ (gd : Option (List Code)) (outer : List Env) (base : Heap) (s : Shared) (tp : Program) (lo : List Str) (mean : ExcName → Option Value) (mg mb : Str → Option Value) (Q E : Value → Shared → Prop),
    Below (tA dp un gd outer) base outer s.heap → (hd.heap_1 w.params).In s.heap → Top tp lo mean mg mb s.heap → s.heap.IsCode c P ps → s.heap.TableAt c P ps → P ≠ cStatics → AllBare s.gens → pre s.heap →
    (∀ r tl s' more, Grown c P ps s s' more → (∀ p ∈ tl, s'.heap.get? p.1 = some p.2 ∧ s.heap.get? p.1 = none) → post r tl → Q r s') →
    wpS (model PySem.Challenge.rw_zn0014_01.prog w) (tA dp un gd outer) (call (.ref f) args) Q E s
theorem classed (w : World) : kb_classed (hd.heap_1 w.params) = true := by with_unfolding_all rfl
theorem useConG {w : World} {dp un d u : Nat} {f : Addr} {args : List Value} {c P : Addr} {ps : Array Value} {pre : Heap → Prop} {post : Value → List (Addr × Obj) → Prop} (C : ConG w dp un f args c P ps pre post)
    {gd : Option (List Code)} {outer : List Env} {env : Env} {base h₁ h₀ : Heap} {A₀ : Around} {s : Shared} {L : Addr} {m : Str → Option Value} {news : List (Addr × Obj)} {tp : Program} {lo : List Str} {mean : ExcName → Option Value} {mg mb : Str → Option Value} {Q E : Value → Shared → Prop}
    (B : Below A₀ base outer h₀) (F : Fr h₀ L s.heap m) (X : (hd.heap_1 w.params).In h₀) (N : News h₀ L s.heap news) (T : Top tp lo mean mg mb h₀) (Bs : Based h₁ h₀ c P ps) (hb : AllBare s.gens) (hf : env.frame = some L) (hke : env.scope.kind = .function)
    (hdp : d ≤ dp) (hu : u ≤ un) (hpre : pre s.heap)
    (h : ∀ r tl s' h₀' more, Based h₁ h₀' c P (ps ++ more) → Fr h₀' L s'.heap m → News h₀' L s'.heap (tl ++ news) → (∀ q ∈ news, ∀ p ∈ tl, q.1 ≠ p.1) → (hd.heap_1 w.params).In h₀' → (∃ tp' lo', Top tp' lo' mean mg mb h₀') → Below A₀ noHeap outer h₀' → AllBare s'.gens → s'.os = s.os →
      (∀ b o, b ≠ P → h₀.get? b = some o → h₀'.get? b = some o) → post r tl → Q r s') :
    wpS (model PySem.Challenge.rw_zn0014_01.prog w) (tA d u gd (env :: outer)) (call (.ref f) args) Q E s := by
  have B' := pushX B F hf hke
  refine wpS_moreA (A' := tA dp un gd (env :: outer)) rfl hdp rfl rfl hu (C gd (env :: outer) base s tp lo mean mg mb Q E ⟨rfl, B'.stays, B'.frames⟩ (X.keeps F.keep) (T.keeps F.keep) (Bs.codeAt F) (Bs.tabAt F) Bs.notStatics hb hpre fun r tl s' more G hn hp => ?_)
  obtain ⟨B₂, F₂⟩ := Bs.grow F G.keep G.code G.tab
  have same : ∀ b, b ≠ P → (regrown h₀ P (ps ++ more)).get? b = h₀.get? b := fun b hb => Heap.get?_update_other _ _ (Ne.symm hb)
  have nP : ∀ {b : Addr}, h₀.get? b = none → b ≠ P := fun e q => by rw [q, Bs.tab.2] at e; cases e
  refine h r tl s' (regrown h₀ P (ps ++ more)) more B₂ F₂ (fun p hq => ?_) (fun q hq p hp e => ?_) (kb_in_regrown Bs X T.g (classed w)) (top_grown Bs T) (below_grown Bs B) G.bare G.os (fun b o hb e => (same b hb).trans e) hp
  · rcases List.mem_append.mp hq with hq | hq
    · have nn := (hn p hq).2
      have n0 : h₀.get? p.1 = none := by
        cases e : h₀.get? p.1 with
        | none => rfl
        | some o => rw [F.keep _ _ e] at nn; cases nn
      refine ⟨(hn p hq).1, fun e => ?_, (same _ (nP n0)).trans n0⟩
      obtain ⟨oL, _, _, hL, _⟩ := F.ns
      rw [e, hL] at nn; cases nn
    · have n0 := (N p hq).2.2
      exact ⟨G.keep _ _ (nP n0) (N p hq).1, (N p hq).2.1, (same _ (nP n0)).trans n0⟩
  · have nn := (hn p hp).2
    rw [← e, (N q hq).1] at nn; cases nn
noncomputable def BackG (c P : Addr) (ps : Array Value) (s : Shared) (Pst : Value → List (Addr × Obj) → Prop) (v : Value) (s' : Shared) : Prop :=
  ∃ hb L m news tl more, Based s.heap hb c P (ps ++ more) ∧ Fr hb L s'.heap m ∧ News hb L s'.heap news ∧ (∀ p ∈ tl, p ∈ news) ∧ AllBare s'.gens ∧ s'.os = s.os ∧ Pst v tl
theorem backG_use {c P : Addr} {ps : Array Value} {s : Shared} {Pst : Value → List (Addr × Obj) → Prop} {Q : Value → Shared → Prop}
    (hQ : ∀ r tl s' more, Grown c P ps s s' more → (∀ p ∈ tl, s'.heap.get? p.1 = some p.2 ∧ s.heap.get? p.1 = none) → Pst r tl → Q r s') {v : Value} {s' : Shared} (h : BackG c P ps s Pst v s') : Q v s' := by
  obtain ⟨hb, L, m, news, tl, more, B, F, N, hs, hbr, hos, hp⟩ := h
  refine hQ v tl s' more ⟨fun b o hbP e => F.keep _ _ ((B.same.2 b hbP).trans e), B.codeAt F, B.tabAt F, hbr, hos⟩ (fun p hq => ⟨(N p (hs p hq)).1, ?_⟩) hp
  have n0 := (N p (hs p hq)).2.2
  have hne : p.1 ≠ P := fun q => by rw [q, B.tab.2] at n0; cases n0
  exact (B.same.2 _ hne).symm.trans n0
section
variable {w : World} {dp un : Nat} {gd : Option (List Code)} {outer : List Env} {base : Heap} {s : Shared} {tp : Program} {lo : List Str} {mean : ExcName → Option Value} {mg mb : Str → Option Value} {Q E : Value → Shared → Prop}
  {name qual : Str} {params : Arguments} {body : List Stmt} {scope : Scope} {dV kV doc pm cdv ct oc : Value} {an od : Option Addr} {osl : Array (Option Value)} {f : Addr} {args : List Value} {binds : List (Str × Value)} {Pst : Value → List (Addr × Obj) → Prop} {c P : Addr} {ps : Array Value}
theorem enterG (_B : Below (tA dp un gd outer) base outer s.heap) (X : (hd.heap_1 w.params).In s.heap) (T : Top tp lo mean mg mb s.heap)
    (hQ : ∀ r tl s' more, Grown c P ps s s' more → (∀ p ∈ tl, s'.heap.get? p.1 = some p.2 ∧ s.heap.get? p.1 = none) → Pst r tl → Q r s')
    (ho : (hd.heap_1 w.params).lookup f = some ⟨oc, od, .func (fnOf name qual params body scope dV kV doc pm an cdv ct), osl⟩) (hcd : codeIn (hd.heap_1 w.params) cdv qual = true) (hroom : (tA dp un gd outer).depth < recursionLimit)
    (hbind : BindsTo s (fnOf name qual params body scope dV kV doc pm an cdv ct) ⟨args, []⟩ binds) (hloc : ∀ y ∈ binds, scope.names.lookup y.1 = some .local)
    (h : ∀ L' h₁, Fr s.heap L' h₁ (fun y => binds.reverse.lookup y) → News s.heap L' h₁ [] →
      wpS (model PySem.Challenge.rw_zn0014_01.prog w) (tA (dp + 1) (un + 3) gd (envOf qual scope L' f cdv :: outer)) (execs body (envOf qual scope L' f cdv))
        (fun fl s' => BackG c P ps s Pst (match fl with | .ret v => v | _ => .none) s') (fun _ _ => False) { s with heap := h₁, toks := s.toks + binds.length })
    (hco : scope.isCoroutine = false) (hgen : scope.isGenerator = false) (hk : scope.kind = .function) (hcell : ∀ x ∈ scope.names, x.2 ≠ .cell) :
    wpS (model PySem.Challenge.rw_zn0014_01.prog w) (tA dp un gd outer) (call (.ref f) args) Q E s := by
  refine wpS_call ?_
  refine codeS_call_function (fd := fnOf name qual params body scope dV kV doc pm an cdv ct) (body := body) hroom (X _ _ ho) rfl hco hgen rfl (codeRec_of X hcd) (hbind _ _ _ _ ?_)
  refine wpAny_newFunctionEnv hcell hloc (fun h₁ hns hsb => ⟨T.nolimit.fresh _ hsb, codeS_func ?_⟩) hk
  have hk₁ : ∀ b o, s.heap.get? b = some o → h₁.get? b = some o := fun b o e => hsb.extBut b o (Nat.ne_of_lt (Heap.lt_size e)) (Heap.get?_push_of_some _ e)
  refine wpS_mono (h s.heap.objs.size h₁ ⟨hns, hk₁, Nat.le_refl _⟩ News.nil) (fun fl s' hb => ⟨_, rfl, backG_use hQ hb⟩) (fun _ _ hf => hf.elim)
theorem enterCG (_B : Below (tA dp un gd outer) base outer s.heap) (X : (hd.heap_1 w.params).In s.heap) (T : Top tp lo mean mg mb s.heap)
    (hQ : ∀ r tl s' more, Grown c P ps s s' more → (∀ p ∈ tl, s'.heap.get? p.1 = some p.2 ∧ s.heap.get? p.1 = none) → Pst r tl → Q r s')
    (ho : (hd.heap_1 w.params).lookup f = some ⟨oc, od, .func (fnOf name qual params body scope dV kV doc pm an cdv ct), osl⟩) (hcd : codeIn (hd.heap_1 w.params) cdv qual = true) (hroom : (tA dp un gd outer).depth < recursionLimit)
    (hbind : BindsTo s (fnOf name qual params body scope dV kV doc pm an cdv ct) ⟨args, []⟩ binds) (hkind : (binds.all fun y => scope.names.lookup y.1 == some .local || scope.names.lookup y.1 == some .cell) = true)
    (hnd : ((cellsFrom 0 scope.names []).map (·.1)).Nodup)
    (h : ∀ L' h₁ tk cells, Fr s.heap L' h₁ (bindL (envOfC qual scope L' f cdv).kindOf binds fun _ => none) → News s.heap L' h₁ cells →
      CellsAre (bindC (envOfC qual scope L' f cdv).kindOf binds fun _ => none) (cellsFrom (L' + 1) scope.names []) cells →
      wpS (model PySem.Challenge.rw_zn0014_01.prog w) (tA (dp + 1) (un + 3) gd (envOfC qual scope L' f cdv :: outer)) (execs body (envOfC qual scope L' f cdv))
        (fun fl s' => BackG c P ps s Pst (match fl with | .ret v => v | _ => .none) s') (fun _ _ => False) { s with heap := h₁, toks := tk })
    (hco : scope.isCoroutine = false) (hgen : scope.isGenerator = false) (hk : scope.kind = .function) :
    wpS (model PySem.Challenge.rw_zn0014_01.prog w) (tA dp un gd outer) (call (.ref f) args) Q E s := by
  refine wpS_call ?_
  refine codeS_call_function hroom (X _ _ ho) rfl hco hgen rfl (codeRec_of X hcd) (hbind _ _ _ _ ?_)
  refine wpAny_newFunctionEnv_cells hk (kindsX hkind _) fun env' he s' x => ?_
  subst he
  refine ⟨T.nolimit.keeps x.toInCall.keep, codeS_func ?_⟩
  obtain ⟨h₁, tk, rfl, _⟩ := x.done
  obtain ⟨cells, NC, Y⟩ := Cl.news (h₀ := s.heap) (Nat.le_refl _) fun n c hm => ⟨x.cell n c (lookup_of_mem_nodup (cellsFrom_names scope.names 0 (s.heap.objs.size + 1) [] [] rfl ▸ hnd) hm), x.above n c hm⟩
  refine wpS_mono (h s.heap.objs.size h₁ tk cells ⟨x.toInCall.ns, x.toInCall.keep, Nat.le_refl _⟩ NC Y) (fun fl s' hb => ⟨_, rfl, backG_use hQ hb⟩) (fun _ _ hf => hf.elim)
end
noncomputable def GNxt (L I : Addr) (oI : Obj) (K : Heap → Shared → (Str → Option Value) → List (Addr × Obj) → Prop) (s' : Shared) : Prop :=
  ∃ hb m news, Fr hb L s'.heap m ∧ News hb L s'.heap ((I, oI) :: news) ∧ (∀ p ∈ news, p.1 ≠ I) ∧ K hb s' m news
noncomputable def GTurn (L I : Addr) (oI : Obj) (K : Heap → Shared → (Str → Option Value) → List (Addr × Obj) → Prop) (Q : Flow → Shared → Prop) (f : Flow) (s' : Shared) : Prop :=
  match f with
  | .ret v => Q (.ret v) s'
  | .brk => Q .next s'
  | _ => GNxt L I oI K s'
theorem GNxt.intro {L I : Addr} {oI : Obj} {K : Heap → Shared → (Str → Option Value) → List (Addr × Obj) → Prop} {s' : Shared} {hb : Heap} {m : Str → Option Value} {all : List (Addr × Obj)} (F : Fr hb L s'.heap m) (N : News hb L s'.heap all) (news : List (Addr × Obj))
    (sub : ∀ p ∈ (I, oI) :: news, p ∈ all) (off : ∀ p ∈ news, p.1 ≠ I) (k : K hb s' m news) : GNxt L I oI K s' := ⟨hb, m, news, F, fun p hp => N p (sub p hp), off, k⟩
noncomputable abbrev itmO (d : Addr) (i n ep : Nat) (ok ov : Value) : Obj := { cls := .type "dict_itemiterator", dict := none, data := .fields #[.none, .bool false, .ref d, .int i 0, .int n 0, .int ep 0, ok, ov], slots := #[] }
section
variable {prog : Program} {w : World} {A : Around} {s : Shared} {hb : Heap} {L : Addr} {m : Str → Option Value} {env : Env} {E : Value → Shared → Prop} {KK : Type} [DecidableEq KK] {knd : KeyKind prog w KK}
noncomputable abbrev GInv (n ep : Nat) (L I d : Addr) (J : Nat → Heap → Shared → (Str → Option Value) → List (Addr × Obj) → Prop) (k : Nat) (s' : Shared) : Prop :=
  ∃ i hb m' news' ok ov, i ≤ n ∧ k = n + 1 - i ∧ IsItemIter s'.heap I d i n ep ok ov ∧ hb.get? I = none ∧ Fr hb L s'.heap m' ∧ News hb L s'.heap news' ∧ (∀ p ∈ news', p.1 ≠ I) ∧ J i hb s' m' news'
theorem for_itemsG {xk xv : Str} {pk pv pt : Pos} {x1 : Nat} {body : List Stmt} {I d : Addr} {kvs : List (KK × Value)} {ep : Nat} {news : List (Addr × Obj)} {Q : Flow → Shared → Prop}
    (J : Nat → Heap → Shared → (Str → Option Value) → List (Addr × Obj) → Prop)
    (stab : ∀ i hb s m news h tk, J i hb s m news → J i hb { s with heap := h, toks := tk } m news) (hJd : ∀ i hb s m news, J i hb s m news → hb.DictAt knd d kvs ep)
    (hh : A.handled = none) (hLe : env.locals = L) (hxk : env.kindOf xk = some .local) (hxv : env.kindOf xv = some .local) (hp : (env.scope.kind == .class || (env.scope.kind == .module && env.locals != env.globals)) = false)
    (F : Fr hb L s.heap m) (N : News hb L s.heap news) (off : ∀ p ∈ news, p.1 ≠ I) (hit : IsItemIter s.heap I d 0 kvs.length ep .none .none) (hI : hb.get? I = none) (hIL : I ≠ L) (hJ : J 0 hb s m news)
    (step : ∀ i k v key hb m₁ news₁ oI s₁, kvs[i]? = some (k, v) → knd.is k key = true → J i hb s₁ m₁ news₁ → Fr hb L s₁.heap (fun y => if y = xv then some v else if y = xk then some key else m₁ y) → News hb L s₁.heap ((I, oI) :: news₁) → (∀ p ∈ news₁, p.1 ≠ I) →
      wpAny (model prog w) A (execs body env) (GTurn L I oI (J (i + 1)) Q) ff s₁)
    (done : ∀ hb m₁ news₁ s₁, J kvs.length hb s₁ m₁ news₁ → Fr hb L s₁.heap m₁ → News hb L s₁.heap news₁ → Q .next s₁) :
    codeAny (model prog w) A (.forLoop (.Tuple [.Name xk pk, .Name xv pv] x1 pt) (.ref I) body [] env) (fun r s' => match r with | .ok f => Q f s' | .error e => cameBackBy (model prog w) A env E e s') s := by
  subst hLe
  refine codeAny_forLoop_any
    (GInv kvs.length ep env.locals I d J) ?_ (kvs.length + 1)
    ⟨0, hb, m, news, _, _, Nat.zero_le _, rfl, hit, hI, F, N, off, hJ⟩
  intro k s' hX
  refine hideP fun G hG => ?_
  obtain ⟨i, hb, m', news', ok, ov, hi, rfl, hit', hI', F', N', off', hJ'⟩ := hX
  refine hG ?_
  clear hG G
  have hd := hJd _ _ _ _ _ hJ'
  have hd' : s'.heap.DictAt knd d kvs ep := hd.at fun o e => F'.keep _ _ e
  have hdI : d ≠ I := fun q => by obtain ⟨o, es, ho, _⟩ := hd; rw [q, hI'] at ho; cases ho
  cases hv : kvs[i]? with
  | none =>
    have hn : i = kvs.length := Nat.le_antisymm hi (by simpa using hv)
    refine wpAny_pyNext_items_end hh hit' hd' hv fun h₁ he₁ => wpAny_execs_nil ?_
    subst hn
    exact done hb m' news' _ (stab _ _ _ _ _ h₁ _ hJ') ⟨F'.ns.extBut he₁ (Ne.symm hIL), fun b o e => he₁ b o (fun q => by rw [q, hI'] at e; cases e) (F'.keep b o e), F'.above⟩ fun p hp => ⟨he₁ _ _ (off' p hp) (N' p hp).1, (N' p hp).2⟩
  | some kv =>
    obtain ⟨kk, v⟩ := kv
    have hlt : i < kvs.length := (List.getElem?_eq_some_iff.mp hv).1
    have hIz : I < s'.heap.objs.size := Heap.lt_size hit'
    have hLz : env.locals < s'.heap.objs.size := F'.ns.lt
    refine wpAny_pyNext_items_item hit' hd' hv fun key h₁ hkey heo ht₁ hz₁ hk₁ => ?_
    refine wpAny_letOwnedTupleGo_items heo fun h₂ he₂ hs₂ => ?_
    replace hs₂ : Heap.SameBut I h₁ h₂ := hs₂
    have ht₂ : h₂.IsTuple s'.heap.objs.size #[key, v] := ⟨_, (hs₂.2 _ (Nat.ne_of_gt hIz)).trans ht₁, rfl, _, rfl⟩
    have hz₂ : h₂.objs.size = s'.heap.objs.size + 1 := hs₂.1.trans hz₁
    refine wpAny_assign_Tuple hh ht₂ rfl rfl fun h₃ hx₃ => ?_
    replace hx₃ : Heap.ExtBut h₂.objs.size h₂ h₃ := hx₃
    have up₃ : ∀ b o, b ≠ I → s'.heap.get? b = some o → h₃.get? b = some o := fun b o hb e => hx₃ b o (by rw [hz₂]; exact Nat.ne_of_lt (Nat.lt_succ_of_lt (Heap.lt_size e))) (hs₂.extBut b o hb (hk₁ b o hb e))
    have hn₃ : h₃.Ns env.locals m' := F'.ns.at' fun o e => up₃ _ o (Ne.symm hIL) e
    have hI₃ : IsItemIter h₃ I d (i + 1) kvs.length ep key v := hx₃ _ _ (by rw [hz₂]; exact Nat.ne_of_lt (Nat.lt_succ_of_lt hIz)) he₂
    show wpAny _ _ (do holding [v] (assign (.Name xk pk) env key); do holding [] (assign (.Name xv pv) env v); pure ()) _ _ _
    refine wpAny_bind (wpAny_holding (wpAny_assign_Name (wpAny_storeName_local hxk hn₃ (fun h₄ hn₄ hs₄ => ?_) hp)))
    replace hs₄ : Heap.SameBut env.locals h₃ h₄ := hs₄
    refine wpAny_bind (wpAny_holding (wpAny_assign_Name (wpAny_storeName_local hxv hn₄ (fun h₅ hn₅ hs₅ => wpAny_pure ?_) hp)))
    replace hs₅ : Heap.SameBut env.locals h₄ h₅ := hs₅
    have up₅ : ∀ b o, b ≠ env.locals → h₃.get? b = some o → h₅.get? b = some o := fun b o hbL e => hs₅.extBut b o hbL (hs₄.extBut b o hbL e)
    have hI₅ : IsItemIter h₅ I d (i + 1) kvs.length ep key v := up₅ _ _ hIL hI₃
    have F₅ : Fr hb env.locals h₅ (fun y => if y = xv then some v else if y = xk then some key else m' y) :=
      ⟨hn₅, fun b o e => up₅ b o (Nat.ne_of_lt (Nat.lt_of_lt_of_le (Heap.lt_size e) F'.above)) (up₃ b o (fun q => by rw [q, hI'] at e; cases e) (F'.keep b o e)), F'.above⟩
    have N₅ : News hb env.locals h₅ ((I, itmO d (i + 1) kvs.length ep key v) :: news') := fun p hp => by
      rcases List.mem_cons.mp hp with rfl | hp
      · exact ⟨hI₅, hIL, hI'⟩
      · exact ⟨up₅ _ _ (N' p hp).2.1 (up₃ _ _ (off' p hp) (N' p hp).1), (N' p hp).2⟩
    refine wpAny_mono (step i kk v key hb m' news' _ _ hv hkey (stab i hb s' m' news' h₅ _ hJ') F₅ N₅ off') (fun f s₃ h₃ => ?_) fun _ _ e => e.elim
    have fin : GNxt env.locals I (itmO d (i + 1) kvs.length ep key v) (J (i + 1)) s₃ → ∃ k', k' < kvs.length + 1 - i ∧ GInv kvs.length ep env.locals I d J k' s₃ := by
      rintro ⟨hb₂, m₂, news₂, F₂, N₂, off₂, hJ₂⟩
      exact ⟨kvs.length + 1 - (i + 1), by omega, i + 1, hb₂, m₂, news₂, _, _, hlt, rfl, (N₂ _ List.mem_cons_self).1, (N₂ _ List.mem_cons_self).2.2, F₂, fun p hp => N₂ p (List.mem_cons_of_mem _ hp), off₂, hJ₂⟩
    cases f with
    | next => exact fin h₃
    | cont => exact fin h₃
    | brk => exact h₃
    | ret v => exact h₃
theorem for_itemsE {xk xv xd : Str} {pk pv pt pd apos cpos pos : Pos} {x1 : Nat} {body : List Stmt} {d : Addr} {kvs : List (KK × Value)} {ep : Nat} {news : List (Addr × Obj)} {Q : Flow → Shared → Prop}
    (J : Nat → Heap → Shared → (Str → Option Value) → List (Addr × Obj) → Prop)
    (stab : ∀ i hb s m news h tk, J i hb s m news → J i hb { s with heap := h, toks := tk } m news) (hJd : ∀ i hb s m news, J i hb s m news → hb.DictAt knd d kvs ep)
    (hh : A.handled = none) (hLe : env.locals = L) (hxk : env.kindOf xk = some .local) (hxv : env.kindOf xv = some .local) (hp : (env.scope.kind == .class || (env.scope.kind == .module && env.locals != env.globals)) = false)
    (F : Fr hb L s.heap m) (N : News hb L s.heap news) (hdS : (d == sysModules) = false) (hJ : J 0 hb s m news)
    (hbase : attributeBase (.Name xd pd) "items" env (eval (.Name xd pd) env) = eval (.Name xd pd) env) (hline : (apos.endLine == cpos.line) = true)
    (ho : ∀ Q' : Value → Shared → Prop, Q' (.ref d) s → wpAny (model prog w) A (eval (.Name xd pd) env) Q' E s)
    (step : ∀ i k v key hb m₁ news₁ I oI s₁, kvs[i]? = some (k, v) → knd.is k key = true → J i hb s₁ m₁ news₁ → Fr hb L s₁.heap (fun y => if y = xv then some v else if y = xk then some key else m₁ y) → News hb L s₁.heap ((I, oI) :: news₁) → (∀ p ∈ news₁, p.1 ≠ I) →
      wpAny (model prog w) A (execs body env) (GTurn L I oI (J (i + 1)) Q) ff s₁)
    (done : ∀ hb m₁ news₁ s₁, J kvs.length hb s₁ m₁ news₁ → Fr hb L s₁.heap m₁ → News hb L s₁.heap news₁ → Q .next s₁)
    (hs : ∀ x, foldedSetIterable (.Call (.Attribute (.Name xd pd) "items" apos) [] [] cpos) env x = pure x := by intro _; rfl) :
    wpAny (model prog w) A (exec (.For (.Tuple [.Name xk pk, .Name xv pv] x1 pt) (.Call (.Attribute (.Name xd pd) "items" apos) [] [] cpos) body [] pos) env) Q E s := by
  have hd₀ := hJd _ _ _ _ _ hJ
  have hd : s.heap.DictAt knd d kvs ep := hd₀.at fun o e => F.keep _ _ e
  refine wpAny_For (wpAny_Call_items hdS hd.dictOf hbase hline ho ?_) hs
  refine wpAny_pyIter_items (knd := knd) (d := d) (kvs := kvs) (ep := ep) ⟨_, Heap.get?_push_size _ rfl, rfl, rfl⟩ (hd.push _) ?_
  have k₂ : ∀ (o₁ o₂ : Obj) b o, s.heap.get? b = some o → ((s.heap.push o₁).push o₂).get? b = some o := fun _ _ _ _ e => Heap.get?_push_of_some _ (Heap.get?_push_of_some _ e)
  have hsz : ∀ o₁ : Obj, (s.heap.push o₁).objs.size = s.heap.objs.size + 1 := fun o₁ => Heap.size_push ..
  refine for_itemsG J stab hJd hh hLe hxk hxv hp (F.keeps (k₂ _ _)) (N.grown (k₂ _ _)) ?_ (Heap.get?_push_size _ rfl) ?_ ?_ (stab 0 hb s m news _ _ hJ) (fun i k v key hb m₁ news₁ oI s₁ a b c d e f => step i k v key hb m₁ news₁ _ oI s₁ a b c d e f) done
  · intro p hp
    show p.1 ≠ (s.heap.push _).objs.size
    rw [hsz]; exact Nat.ne_of_lt (Nat.lt_succ_of_lt (Heap.lt_size (N p hp).1))
  · show hb.get? (s.heap.push _).objs.size = none
    cases e : hb.get? (s.heap.push _).objs.size with
    | none => rfl
    | some o => have := Heap.lt_size (F.keep _ _ e); rw [hsz] at this; exact absurd this (Nat.not_lt.mpr (Nat.le_succ _))
  · show (s.heap.push _).objs.size ≠ L
    rw [hsz]; exact Nat.ne_of_gt (Nat.lt_succ_of_lt F.ns.lt)
end
end Mine
end
section
open PySem PySem.W PySem.W.X PyProof.Rows
namespace Mine
set_option maxRecDepth 100000
set_option maxHeartbeats 8000000
local macro_rules | `(tactic| x_close) => `(tactic| first | with_unfolding_all assumption | (apply_assumption; exact mem_stays (by assumption)))
theorem isinst_tup {w : World} {A : Around} {Q E : Value → Shared → Prop} {s : Shared} {D : Addr} {its : Array Value} {n : Nat}
   (_hD : s.heap.get? D = some ⟨.type "tuple", none, .seq its n, #[]⟩)
  (_h : Q (.bool true) s) : wpAny (model PySem.Challenge.rw_zn0014_01.prog w) A (call (.builtin "isinstance") [.ref D, .type "tuple"]) Q E s := by
  w_top off
  x_run
end Mine
end
section
open PySem PySem.W PySem.Calls PyProof.Rows PyProof.Rows.LCg
namespace Mine
set_option maxRecDepth 100000
set_option maxHeartbeats 8000000
noncomputable abbrev amL (T S NC : Addr) (vf vc : Option Value) : List (Str × Option Value) := [(Str.ofString "caller", vc), (Str.ofString "func", vf), (Str.ofString "new_callers", some (.ref NC)), (Str.ofString "source", some (.ref S)), (Str.ofString "target", some (.ref T))]
noncomputable abbrev AMp (T S NC : Addr) (vf vc : Option Value) : Str → Option Value := mapOf (amL T S NC vf vc)
noncomputable def SumPost (old : Option (Addr × Int × Int × Int)) (b : Addr) (b1 b2 b3 : Int) (v : Value) (tl : List (Addr × Obj)) : Prop :=
  match old with
  | none => v = .ref b
  | some x => ∃ D t1 t2 t3, v = .ref D ∧ (D, tupO #[.int (b1 + x.2.1) t1, .int (b2 + x.2.2.1) t2, .int (b3 + x.2.2.2) t3]) ∈ tl
theorem SumPost.mono {old : Option (Addr × Int × Int × Int)} {b : Addr} {b1 b2 b3 : Int} {v : Value} {tl tl' : List (Addr × Obj)} (h : SumPost old b b1 b2 b3 v tl) (hs : ∀ q ∈ tl, q ∈ tl') : SumPost old b b1 b2 b3 v tl' := by
  cases old with
  | none => exact h
  | some x => obtain ⟨D, t1, t2, t3, e1, e2⟩ := h; exact ⟨D, t1, t2, t3, e1, hs _ e2⟩
theorem three_sums {a1 a2 a3 c1 c2 c3 : Int} {acc : Array Value} (hz : acc.size = 3) (h : ∀ j v, acc[j]? = some v → ∃ t, v = Value.int ([a1 + c1, a2 + c2, a3 + c3].getD j 0) t) : ∃ t1 t2 t3, acc = #[Value.int (a1 + c1) t1, .int (a2 + c2) t2, .int (a3 + c3) t3] := by
  obtain ⟨l⟩ := acc
  have hl : l.length = 3 := hz
  cases l with
  | nil => cases hl
  | cons x l =>
    cases l with
    | nil => cases hl
    | cons y l =>
      cases l with
      | nil => cases hl
      | cons z l =>
        obtain rfl : l = [] := List.eq_nil_of_length_eq_zero (by simpa using hl)
        obtain ⟨t1, rfl⟩ := h 0 x rfl
        obtain ⟨t2, rfl⟩ := h 1 y rfl
        obtain ⟨t3, rfl⟩ := h 2 z rfl
        exact ⟨t1, t2, t3, rfl⟩
theorem pair_sum {a1 a2 a3 c1 c2 c3 : Int} {w1 w2 w3 u1 u2 u3 : Tok} {i : Nat} {va vb : Value} (h : #[Value.int a1 w1, .int a2 w2, .int a3 w3][i]? = some va) (h' : #[Value.int c1 u1, .int c2 u2, .int c3 u3][i]? = some vb) :
    ∃ (p q : Int) (t1 t2 : Tok), va = .int p t1 ∧ vb = .int q t2 ∧ [a1 + c1, a2 + c2, a3 + c3].getD i 0 = p + q := by
  match i, h, h' with
  | 0, h, h' => exact ⟨_, _, _, _, (Option.some.inj h).symm, (Option.some.inj h').symm, rfl⟩
  | 1, h, h' => exact ⟨_, _, _, _, (Option.some.inj h).symm, (Option.some.inj h').symm, rfl⟩
  | 2, h, h' => exact ⟨_, _, _, _, (Option.some.inj h).symm, (Option.some.inj h').symm, rfl⟩
  | n + 3, h, _ => simp at h
theorem stored_new {K : Type} [DecidableEq K] {kvs : List (K × Value)} {k : K} {v : Value} (h : valueAt kvs k = none) : stored kvs k v = kvs ++ [(k, v)] := by
  unfold stored
  rw [if_neg]
  intro hq
  obtain ⟨kv, hm, hk⟩ := List.any_eq_true.mp hq
  unfold valueAt at h
  rw [Option.map_eq_none_iff] at h
  exact List.find?_eq_none.mp h kv hm hk
theorem stored_take {K : Type} [DecidableEq K] {kvs : List (K × Value)} {i : Nat} {k : K} {v : Value} (hn : (kvs.map (·.1)).Nodup) (h : kvs[i]? = some (k, v)) : stored (kvs.take i) k v = kvs.take (i + 1) := by
  rw [List.take_add_one, h]
  refine stored_new ?_
  unfold valueAt
  rw [Option.map_eq_none_iff, List.find?_eq_none]
  intro e he hk
  have hk' : e.1 = k := by simpa using hk
  obtain ⟨j, hj, rfl⟩ := List.mem_take_iff_getElem.mp he
  have hi : i < kvs.length := (List.getElem?_eq_some_iff.mp h).1
  have hjl : j < kvs.length := by omega
  have e1 : (kvs.map (·.1))[j]'(by simpa using hjl) = (kvs.map (·.1))[i]'(by simpa using hi) := by
    rw [List.getElem_map, List.getElem_map]
    rw [hk', (List.getElem?_eq_some_iff.mp h).2]
  exact (List.pairwise_iff_getElem.mp hn) j i (by simpa using hjl) (by simpa using hi) (by omega) e1
theorem isDict_nodup {prog : Program} {w : World} {K : Type} [DecidableEq K] {knd : KeyKind prog w K} {o : Obj} {kvs : List (K × Value)} (h : o.IsDictOf knd kvs) : (kvs.map (·.1)).Nodup := by
  obtain ⟨_, _, _, _, _, _, x⟩ := h
  exact x
theorem dictAt_of {prog : Program} {w : World} {K : Type} [DecidableEq K] {knd : KeyKind prog w K} {h : Heap} {d : Addr} {kvs : List (K × Value)} (x : h.DictOf knd d kvs) : ∃ ep, h.DictAt knd d kvs ep := by
  obtain ⟨o, es, ep, r⟩ := x
  exact ⟨ep, o, es, r⟩
noncomputable def A1J (w : World) (hp : Heap) (os : PySem.OsState) (T S NC : Addr) (kvs : List (Str × Value)) (i : Nat) (hb : Heap) (s₁ : Shared) (m : Str → Option Value) (news : List (Addr × Obj)) : Prop :=
  hb = hp ∧ AllBare s₁.gens ∧ s₁.os = os ∧ ∃ o vf vc, m = AMp T S NC vf vc ∧ news = [(NC, o)] ∧ o.IsDictOf (strKind PySem.Challenge.rw_zn0014_01.prog w) (kvs.take i)
noncomputable def A2J (w : World) (hp : Heap) (os : PySem.OsState) (P : Addr) (ps : Array Value) (T S NC a b : Addr) (old : Option (Addr × Int × Int × Int)) (b1 b2 b3 : Int) (kvs : List (Str × Value)) (word back : Str) (i : Nat) (hb : Heap) (s₁ : Shared) (m : Str → Option Value) (news : List (Addr × Obj)) : Prop :=
  AllBare s₁.gens ∧ s₁.os = os ∧ ∃ more, Based hp hb 97 P (ps ++ more) ∧ ∃ o vf vc tl, m = AMp T S NC vf vc ∧ news = (NC, o) :: tl ∧
        ((i = 0 ∧ hb = hp ∧ tl = [] ∧ o.IsDictOf (strKind PySem.Challenge.rw_zn0014_01.prog w) kvs) ∨ (i = 1 ∧ hb = hp ∧ tl = [] ∧ o.IsDictOf (strKind PySem.Challenge.rw_zn0014_01.prog w) (stored kvs word (.ref a))) ∨
         (i = 2 ∧ ∃ v, o.IsDictOf (strKind PySem.Challenge.rw_zn0014_01.prog w) (stored (stored kvs word (.ref a)) back v) ∧ SumPost old b b1 b2 b3 v tl))
noncomputable def CallPost (w : World) (b a : Addr) (old : Option (Addr × Int × Int × Int)) (b1 b2 b3 : Int) (kvs : List (Str × Value)) (word back : Str) (r : Value) (tl : List (Addr × Obj)) : Prop :=
  ∃ (R : Addr) (oR : Obj) (v : Value), r = .ref R ∧ (R, oR) ∈ tl ∧ (R == sysModules) = false ∧ oR.IsDictOf (strKind PySem.Challenge.rw_zn0014_01.prog w) (stored (stored kvs word (.ref a)) back v) ∧
       SumPost old b b1 b2 b3 v tl
theorem val_back {a : Addr} {kvs : List (Str × Value)} {word back : Str} {old : Option (Addr × Int × Int × Int)} (hwb : word ≠ back) (hnw : valueAt kvs word = none) (hob : valueAt kvs back = old.map fun x => .ref x.1) : valueAt (stored kvs word (.ref a)) back = old.map fun x => Value.ref x.1 := by
  rw [stored_new hnw, ← hob]
  unfold valueAt
  rw [List.find?_append]
  cases kvs.find? fun kv => kv.1 = back with
  | some _ => rfl
  | none => simp [hwb]
section
local macro_rules | `(tactic| walk_at "exec For Tuple Call cons nil") => `(tactic| refine Stop.of ?_)
local macro_rules | `(tactic| walk_at "exec For Tuple Call") => `(tactic| refine Stop.of ?_)
local macro_rules | `(tactic| walk_at "setItem ref str") => `(tactic| refine Stop.of ?_)
local macro_rules | `(tactic| walk_at "call builtin:isinstance") => `(tactic| refine Stop.of ?_)
local macro_rules | `(tactic| walk_at "eval GeneratorExp") => `(tactic| refine Stop.of ?_)
local macro_rules | `(tactic| walk_at "call type:zip") => `(tactic| refine Stop.of ?_)
local macro_rules | `(tactic| walk_at "call type:tuple") => `(tactic| refine Stop.of ?_)
local macro_rules | `(tactic| walk_at "subscriptTail Name Name ref str") => `(tactic| refine Stop.of ?_)
local macro_rules | `(tactic| walk_at "compareOp In str ref") => `(tactic| refine Stop.of ?_)
theorem c_callers {w : World} {T S a b P : Addr} {ps : Array Value} {kvs : List (Str × Value)} {word back : Str} {b1 b2 b3 : Int} (old : Option (Addr × Int × Int × Int)) (hwb : word ≠ back) (hnw : valueAt kvs word = none) (hob : valueAt kvs back = old.map fun x => .ref x.1) :
   ConG w 860 8600 98 [.ref T, .ref S] 97 P ps
     (fun h => (T == sysModules) = false ∧ (S == sysModules) = false ∧ kvs.length ≤ 1000 ∧ h.DictOf (strKind PySem.Challenge.rw_zn0014_01.prog w) T kvs ∧ h.DictOf (strKind PySem.Challenge.rw_zn0014_01.prog w) S [(word, .ref a), (back, .ref b)] ∧
       (∃ t1 t2 t3, h.get? b = some (tupO #[.int b1 t1, .int b2 t2, .int b3 t3])) ∧ ∀ x, old = some x → ∃ t1 t2 t3, h.get? x.1 = some (tupO #[.int x.2.1 t1, .int x.2.2.1 t2, .int x.2.2.2 t3]))
     (CallPost w b a old b1 b2 b3 kvs word back) := by
  w_top off
  intro gd outer base s tp lo mean mg mb Q E B X T0 hcode htab hst hbare hpre hret
  obtain ⟨hT, hS, hlen, hdT, hdS, hb, hold⟩ := hpre
  revert X
  k_fill
  intro X
  refine' enterG (binds := [(Str.ofString "target", .ref T), (Str.ofString "source", .ref S)]) B X T0 hret ?k6 ?k7 ?k8 ?k9 ?kL ?_ ?c2 ?c3 ?c4 ?c5
  case k6 => k_dflt k_is
  case k7 => k_dflt k_is
  case k8 => exact (by decide : (860:Nat) < recursionLimit)
  case k9 => exact BindsTo.of_eq rfl
  case kL => exact locs rfl
  case c5 => decide
  case c2 => exact rfl
  case c3 => exact rfl
  case c4 => exact rfl
  intro L' h' F N
  clear hret
  replace F : Fr s.heap L' h' (mapOf [(Str.ofString "source", some (.ref S)), (Str.ofString "target", some (.ref T))]) := fr_lookup F rfl
  refine wpS_of ?_
  refine hide fun RQ hRQ => ?_
  k_steps
  unfold Stop
  rename_i NC hA o0 hNC hs0 fs0 hi0 fi0 l1 hB F1 N1
  replace F1 : Fr s.heap L' hB (AMp T S NC none none) := fr_nones [Str.ofString "caller", Str.ofString "func"] (l := [(Str.ofString "new_callers", some (.ref NC)), (Str.ofString "source", some (.ref S)), (Str.ofString "target", some (.ref T))]) F1 rfl rfl
  refine hideP fun G hG => ?_
  obtain ⟨epT, hdT⟩ := dictAt_of hdT
  obtain ⟨epS, hdS⟩ := dictAt_of hdS
  refine hG ?_
  clear hG G
  have nodT : (kvs.map (·.1)).Nodup := by obtain ⟨_, _, _, _, _, _, _, x⟩ := hdT; exact x
  refine for_itemsE (knd := strKind PySem.Challenge.rw_zn0014_01.prog w) (d := T) (kvs := kvs) (ep := epT) (A1J w s.heap s.os T S NC kvs)
    (fun _ _ _ _ _ _ _ h => h) (fun i hb s m news h => by rw [h.1]; exact hdT) (by rfl) (by rfl) (by rfl) (by rfl) (by rfl) F1 N1 hT ⟨rfl, hbare, rfl, o0, none, none, rfl, rfl, hs0⟩ (by rfl) (by rfl) ?ho ?step ?done
  case ho => exact fun Q' h => wpAny_Name (wpAny_loadName_local rfl rfl F1.ns rfl h) (by decide)
  case step =>
    intro i k v key hb m₁ news₁ I oI s₁ hkv hkey hJ F2 N2 off2
    refine hide fun R2 hR2 => ?_
    refine hideP fun G hG => ?_
    obtain ⟨rfl, hbr, hos, o, vf, vc, hm, hn, ho⟩ := hJ
    obtain ⟨tk, rfl⟩ := Value.isStrOf_shape hkey
    have hi : i < kvs.length := (List.getElem?_eq_some_iff.mp hkv).1
    replace N2 : News s.heap L' s₁.heap [(I, oI), (NC, o)] := hn ▸ N2
    replace F2 : Fr s.heap L' s₁.heap (AMp T S NC (some (.str k tk)) (some v)) := fr_set2 (l := amL T S NC vf vc) (l' := amL T S NC (some (.str k tk)) vc) (hm ▸ F2) rfl rfl rfl rfl
    have hIN : I ≠ NC := fun e => off2 (NC, o) (hn ▸ .head _) e.symm
    have g2 := N2 (NC, o) (.tail _ (.head _))
    refine hG ?_
    clear hG G hn hm off2
    k_steps
    unfold Stop
    refine wpAny_setItem_pairs (strKind_is _ _ _ _) (Heap.dictOf_iff.mpr ⟨o, g2.1, ho⟩) (fun h3 d3 s3 => ?_) (by rw [sizeLine_eq, List.length_take]; omega)
    refine hideP fun G hG => ?_
    obtain ⟨o3, ho3, hd3⟩ := Heap.dictOf_iff.mp d3
    have N3 := News.setIn (own := [(I, oI)]) (rest := []) N2 (all_cons hIN all_nil) all_nil s3 ho3
    have F3 := F2.change s3 g2.2.1 g2.2.2
    rw [stored_take nodT hkv] at hd3
    refine hG ?_
    clear hG G
    k_steps
    refine hR2 _ _ ?_
    dsimp only [GTurn]
    exact GNxt.intro F3 N3 [(NC, o3)] (fun p hp => hp) (all_cons hIN.symm all_nil) ⟨rfl, hbr, hos, o3, some (.str k tk), some v, rfl, rfl, hd3⟩
  case done =>
    intro hb m₁ news₁ s₁ hJ F2 N2
    refine hideP fun G hG => ?_
    obtain ⟨rfl, hbr, hos, o, vf, vc, hm, hn, ho⟩ := hJ
    rw [List.take_length] at ho
    replace N2 : News s.heap L' s₁.heap [(NC, o)] := hn ▸ N2
    replace F2 : Fr s.heap L' s₁.heap (AMp T S NC vf vc) := hm ▸ F2
    refine hG ?_
    clear hG G hn hm
    k_steps
    unfold Stop
    refine for_itemsE (knd := strKind PySem.Challenge.rw_zn0014_01.prog w) (d := S) (kvs := [(word, .ref a), (back, .ref b)]) (ep := epS) (A2J w s.heap s.os P ps T S NC a b old b1 b2 b3 kvs word back)
      (fun _ _ _ _ _ _ _ h => h) (fun i hb s m news h => ?_) (by rfl) (by rfl) (by rfl) (by rfl) (by rfl) F2 N2 hS ⟨hbr, hos, #[], ?b0, o, vf, vc, [], rfl, rfl, .inl ⟨rfl, rfl, rfl, ho⟩⟩ (by rfl) (by rfl) ?ho ?step ?done
    · obtain ⟨_, _, more, Bs, _⟩ := h
      obtain ⟨oS, es, ho, hx, r⟩ := hdS
      exact ⟨oS, es, Bs.get ho (by rw [hx.1]; simp), hx, r⟩
    case b0 => rw [show ps ++ #[] = ps by simp]; exact .start hcode htab hst
    case ho => exact fun Q' h => wpAny_Name (wpAny_loadName_local rfl rfl F2.ns rfl h) (by decide)
    case done =>
      intro hb m₁ news₁ s₂ hJ F3 N3
      refine hideP fun G hG => ?_
      obtain ⟨hbr, hos, more, Bs, o, vf, vc, tl, hm, hn, h2⟩ := hJ
      obtain ⟨v, hd, hv⟩ : ∃ v, o.IsDictOf (strKind PySem.Challenge.rw_zn0014_01.prog w) (stored (stored kvs word (.ref a)) back v) ∧ SumPost old b b1 b2 b3 v tl := by
        rcases h2 with ⟨h, _⟩ | ⟨h, _⟩ | ⟨_, h⟩
        · exact absurd h (by simp)
        · exact absurd h (by simp)
        · exact h
      replace N3 : News hb L' s₂.heap ((NC, o) :: tl) := hn ▸ N3
      replace F3 : Fr hb L' s₂.heap (AMp T S NC vf vc) := hm ▸ F3
      refine hG ?_
      clear hG G hn hm h2
      k_steps
      exact hRQ _ _ ⟨hb, L', _, (NC, o) :: tl, (NC, o) :: tl, more, Bs, F3, N3, fun _ h => h, hbr, hos, NC, o, v, rfl, List.mem_cons_self, hNC, hd, hv.mono fun q hq => List.mem_cons_of_mem _ hq⟩
    case step =>
      intro i k v key hb m₁ news₁ I oI s₂ hkv hkey hJ F3 N3 off3
      refine hide fun R2 hR2 => ?_
      refine hideP fun G hG => ?_
      obtain ⟨hbr, hos, more, Bs, o, vf, vc, tl, hm, hn, h2⟩ := hJ
      obtain ⟨tk0, rfl⟩ := Value.isStrOf_shape hkey
      replace F3 : Fr hb L' s₂.heap (AMp T S NC (some (.str k tk0)) (some v)) := fr_set2 (l := amL T S NC vf vc) (l' := amL T S NC (some (.str k tk0)) vc) (hm ▸ F3) rfl rfl rfl rfl
      have hIN : I ≠ NC := fun e => off3 (NC, o) (hn ▸ .head _) e.symm
      clear hm off3
      rcases h2 with ⟨rfl, rfl, rfl, ho⟩ | ⟨rfl, rfl, rfl, ho⟩ | ⟨rfl, _⟩
      · cases hkv
        replace N3 : News s.heap L' s₂.heap [(I, oI), (NC, o)] := hn ▸ N3
        have g3 := N3 (NC, o) (.tail _ (.head _))
        have dN := Heap.dictOf_iff.mpr ⟨o, show s₂.heap.get? NC = some o from g3.1, ho⟩
        refine hG ?_
        clear hG G hn
        k_steps
        unfold Stop
        refine wpAny_in_of (strKind_is _ _ _ _) hNC dN.mapOf ?_
        rw [hnw]
        simp only [Option.isSome_none]
        k_steps
        unfold Stop
        refine wpAny_setItem_pairs (strKind_is _ _ _ _) dN (fun h4 d4 s4 => ?_) (by rw [sizeLine_eq]; omega)
        refine hideP fun G hG => ?_
        obtain ⟨o4, ho4, hd4⟩ := Heap.dictOf_iff.mp d4
        have N4 := News.setIn (own := [(I, oI)]) (rest := []) N3 (all_cons hIN all_nil) all_nil s4 ho4
        have F4 := F3.change s4 g3.2.1 g3.2.2
        refine hG ?_
        clear hG G
        k_steps
        refine hR2 _ _ ?_
        dsimp only [GTurn]
        exact GNxt.intro F4 N4 [(NC, o4)] (fun p hp => hp) (all_cons hIN.symm all_nil) ⟨hbr, hos, more, Bs, o4, some (.str word tk0), some (.ref a), [], rfl, rfl, .inr (.inl ⟨by first | rfl | trivial, rfl, rfl, hd4⟩)⟩
      · cases hkv
        replace N3 : News s.heap L' s₂.heap [(I, oI), (NC, o)] := hn ▸ N3
        have g3 := N3 (NC, o) (.tail _ (.head _))
        have dN := Heap.dictOf_iff.mpr ⟨o, show s₂.heap.get? NC = some o from g3.1, ho⟩
        have hvb := val_back (a := a) hwb hnw hob
        have hl2 := stored_length (kvs := kvs) (k := word) (v := Value.ref a)
        refine hG ?_
        clear hG G hn
        k_steps
        unfold Stop
        refine wpAny_in_of (strKind_is _ _ _ _) hNC dN.mapOf ?_
        rw [hvb]
        cases old with
        | none =>
          simp only [Option.map_none, Option.isSome_none]
          k_steps
          unfold Stop
          refine wpAny_setItem_pairs (strKind_is _ _ _ _) dN (fun h4 d4 s4 => ?_) (by rw [sizeLine_eq]; omega)
          refine hideP fun G hG => ?_
          obtain ⟨o4, ho4, hd4⟩ := Heap.dictOf_iff.mp d4
          have N4 := News.setIn (own := [(I, oI)]) (rest := []) N3 (all_cons hIN all_nil) all_nil s4 ho4
          have F4 := F3.change s4 g3.2.1 g3.2.2
          refine hG ?_
          clear hG G
          k_steps
          refine hR2 _ _ ?_
          dsimp only [GTurn]
          exact GNxt.intro F4 N4 [(NC, o4)] (fun p hp => hp) (all_cons hIN.symm all_nil) ⟨hbr, hos, more, Bs, o4, some (.str back tk0), some (.ref b), [], rfl, rfl, .inr (.inr ⟨by first | rfl | trivial, _, hd4, rfl⟩)⟩
        | some x =>
          refine hideP fun G hG => ?_
          obtain ⟨u1, u2, u3, hx⟩ := hold x rfl
          obtain ⟨w1, w2, w3, hbt⟩ := hb
          have hIb : IsTup s.heap b #[.int b1 w1, .int b2 w2, .int b3 w3] := ⟨_, hbt, rfl, _, rfl⟩
          refine hG ?_
          clear hG G
          simp only [Option.map_some, Option.isSome_some]
          k_steps
          unfold Stop
          refine isinst_tup (F3.keep _ _ hbt) ?_
          k_steps
          unfold Stop
          refine hide fun R4 hR4 => ?_
          obtain ⟨bm, ob, M⟩ := bmod_of_top T0
          refine gen_zip (l1 := b) (l2 := x.1) (xs := #[.int b1 w1, .int b2 w2, .int b3 w3]) (ys := #[.int x.2.1 u1, .int x.2.2.1 u2, .int x.2.2.2 u3]) (G := fun i y => ∃ t, y = .int ([b1 + x.2.1, b2 + x.2.2.1, b3 + x.2.2.2].getD i 0) t)
            (c := 97) (by rfl) (by rfl) (by rfl) (by rfl) (by decide) (by rfl) (by rfl) (by rfl) (by decide) (by rfl) (by exact (by decide : (860 + 1 : Nat) < recursionLimit)) F3 Bs M T0.nolimit hbr rfl ⟨_, F3.keep _ _ hbt, rfl, _, rfl⟩ ⟨_, F3.keep _ _ hx, rfl, _, rfl⟩ ?it ?el ?go (by intro _; rfl)
          case it =>
            intro Q' hq
            k_steps
            unfold Stop
            refine tail_any dN.typeIs slot_dict_getitem.lookup (wpAny_getItem_of (strKind_is _ _ _ _) dN.mapOf (show valueAt _ _ = some (.ref x.1) from hvb) ?_) (by with_unfolding_all rfl)
            k_steps
            unfold Stop
            exact call_zip ⟨_, F3.keep _ _ hbt, rfl, _, rfl⟩ ⟨_, F3.keep _ _ hx, rfl, _, rfl⟩ fun h' z TI TO i1 i2 a1 a2 a3 a4 D st hk => hq h' _ z TI TO i1 i2 a1 a2 a3 a4 D st hk
          case el =>
            intro code C A' E' i va vb t m₂ hA hva hvb' hns h1 h2
            obtain ⟨p, q, t1, t2, rfl, rfl, hpq⟩ := pair_sum hva hvb'
            rw [hpq]
            exact el_sum hns h1 h2 (by rfl) (by rfl) (by rfl) (by decide) (by decide)
          case go =>
            intro a' s₅ more' B5 F5 hbr5 hos5 hk5 G5
            refine hR4 _ _ ?_
            clear hR4 R4
            have hLs : L' < s₂.heap.objs.size := F3.ns.lt
            clear F3
            k_steps
            unfold Stop
            refine gen_tuple F5 hbr5 G5 (Nat.le_sub_one_of_lt hLs) (by show 3 ≤ 1000; decide) fun s₆ D acc F6 hbr6 hos6 hk6 hDL hD0 hDo hz hacc => ?_
            obtain ⟨v1, v2, v3, rfl⟩ := three_sums hz hacc
            have hsP : s.heap.get? P = some { cls := .none, data := .fields ps } := htab.2
            have N6 : News (regrown s.heap P (ps ++ more ++ more')) L' s₆.heap [(D, tupO #[.int (b1 + x.2.1) v1, .int (b2 + x.2.2.1) v2, .int (b3 + x.2.2.2) v3]), (I, oI), (NC, o)] := by
              intro q hq
              rcases List.mem_cons.mp hq with rfl | hq
              · exact ⟨hDo, hDL, hD0⟩
              · obtain ⟨n1, n2, n3⟩ := N3 q hq
                have hqP : q.1 ≠ P := fun e => by rw [e, hsP] at n3; cases n3
                exact ⟨(hk6 _ _ (Nat.le_sub_one_of_lt (Heap.lt_size n1)) (hk5 _ _ hqP n1)).1, n2, (Heap.get?_update_other _ _ (Ne.symm hqP)).trans n3⟩
            have hDne : ∀ q ∈ [(I, oI), (NC, o)], q.1 ≠ D := by
              intro q hq
              obtain ⟨n1, n2, n3⟩ := N3 q hq
              have hqP : q.1 ≠ P := fun e => by rw [e, hsP] at n3; cases n3
              exact (hk6 _ _ (Nat.le_sub_one_of_lt (Heap.lt_size n1)) (hk5 _ _ hqP n1)).2
            have g6 := N6 (NC, o) (.tail _ (.tail _ (.head _)))
            have hDN : D ≠ NC := fun e => hDne (NC, o) (.tail _ (.head _)) e.symm
            have hDI : D ≠ I := fun e => hDne (I, oI) (.head _) e.symm
            clear N3 F5 G5 hk5 hk6 hDne
            k_steps
            unfold Stop
            have d6 := Heap.dictOf_iff.mpr ⟨o, show s₆.heap.get? NC = some o from g6.1, ho⟩
            refine wpAny_setItem_pairs (strKind_is _ _ _ _) d6 (fun h7 d7 s7 => ?_) (by rw [sizeLine_eq]; omega)
            refine hideP fun G hG => ?_
            obtain ⟨o7, ho7, hd7⟩ := Heap.dictOf_iff.mp d7
            have N7 := News.setIn (own := [(D, tupO #[.int (b1 + x.2.1) v1, .int (b2 + x.2.2.1) v2, .int (b3 + x.2.2.2) v3]), (I, oI)]) (rest := []) N6 (all_cons hDN (all_cons hIN all_nil)) all_nil s7 ho7
            have F7 := F6.change s7 g6.2.1 g6.2.2
            refine hG ?_
            clear hG G
            k_steps
            refine hR2 _ _ ?_
            dsimp only [GTurn]
            have Bf : Based s.heap (regrown s.heap P (ps ++ more ++ more')) 97 P (ps ++ (more ++ more')) := by rw [← Array.append_assoc]; exact B5
            exact GNxt.intro F7 N7 [(NC, o7), (D, tupO #[.int (b1 + x.2.1) v1, .int (b2 + x.2.2.1) v2, .int (b3 + x.2.2.2) v3])] (fun _ h => mem_pick (l := [(D, tupO #[.int (b1 + x.2.1) v1, .int (b2 + x.2.2.1) v2, .int (b3 + x.2.2.2) v3]), (I, oI), (NC, o7)]) (n := 3) (is := [1, 2, 0]) h) (all_cons hIN.symm (all_cons hDI all_nil))
              ⟨hbr6, hos6.trans (hos5.trans hos), more ++ more', Bf, o7, some (.str back tk0), some (.ref b), [(D, tupO #[.int (b1 + x.2.1) v1, .int (b2 + x.2.2.1) v2, .int (b3 + x.2.2.2) v3])], rfl, rfl, .inr (.inr ⟨by first | rfl | trivial, _, hd7, D, v1, v2, v3, rfl, List.mem_cons_self⟩)⟩
      · exact absurd hkv (by simp)
end
end Mine
end
section
open PySem PySem.W PySem.Calls PyProof.Rows PyProof.Rows.LCg
set_option maxRecDepth 100000
namespace Mine
section
variable {prog : Program} {w : World} {A : Around} {s : Shared} {h₀ : Heap} {L : Addr} {m : Str → Option Value} {env : Env} {R : Result → Shared → Prop} {E : Value → Shared → Prop}
theorem compStart_inner {elt target iter : PySem.Expr} {ifs : List PySem.Expr} {g₀ : Comprehension} {scope : Scope} {pos : Pos} {it acc : Value} {cenv : Env}
    (h0 : codeAny (model prog w) A (.compLoop (.ListComp elt [g₀, ⟨target, iter, ifs, 0⟩] scope pos) 1 it acc cenv) R s)
    (h : wpAny (model prog w) A (pyIter it) (fun it' s' => codeAny (model prog w) A (.compLoop (.ListComp elt [g₀, ⟨target, iter, ifs, 0⟩] scope pos) 1 it' acc cenv) R s') (notedBy (model prog w) A cenv fun x s' => R (.error x) s') s) :
    codeAny (model prog w) A (.compStart (.ListComp elt [g₀, ⟨target, iter, ifs, 0⟩] scope pos) 1 it acc cenv) R s := by
  refine codeAny_of_tree ?_
  show wpAny _ _ ((compStart (.ListComp elt [g₀, ⟨target, iter, ifs, 0⟩] scope pos) 1 it acc cenv).onRaise (fun x => do noteFrame x cenv; standAt theWindowsPlace)) _ _ s
  refine wpAny_notedAt ?_
  unfold compStart
  show wpAny _ _ (ask >>= _) _ _ s
  refine wpAny_bind (wpAny_askSetting (wpAny_ite ?_))
  split
  · first
      | exact wpAny_bind (wpAny_pure (wpAny_pure (And.intro rfl h0)))
      | exact wpAny_pure (And.intro rfl h0)
  · refine wpAny_bind (wpAny_rule ?_)
    show wpAny _ _ (standAt iter.pos >>= _) _ _ s
    exact wpAny_bind (wpAny_standAt (wpAny_bind (wpAny_mono h (fun it' s' h' => wpAny_pure (And.intro rfl h')) fun _ _ x => x)))
theorem lc_inner {elt iter target₀ iter₀ : PySem.Expr} {ifs ifs₀ : List PySem.Expr} {scope : Scope} {pos px : Pos} {I C D : Addr} {cl : List (Str × Addr)} {x : Str} {fp : List Addr} {n : Nat} {P : Nat → Value → Prop} {St : Nat → Heap → Prop} {S : List (Addr × Obj) → Prop}
    (J : Nat → (Str → Option Value) → List Value → List (Addr × Obj) → Prop) {m₂ : Str → Option Value} {oC : Obj} {ys : List Value} {news : List (Addr × Obj)}
    (src : Src prog w A h₀ L I fp n P St S s.heap) (hkind : scope.kind = .function) (hx : scope.names.lookup x = some .local) (hfp : C ∉ fp ∧ D ∉ fp)
    (hlen : ∀ i m₂ ys news, J i m₂ ys news → ys.length ≤ sizeLine)
    (step : ∀ i v m₂ ys news oI oC h tk, i < n → P i v → J i m₂ ys news → NsObj oC (fun z => if z = x then some v else m₂ z) → Fr h₀ L h m → News h₀ L h ((I, oI) :: (C, oC) :: (D, lst ys) :: news) → Off3 I C D news → (I ≠ C ∧ I ≠ D ∧ C ≠ D) → S news →
      wpAny (model prog w) A (tests ifs (compEnvC scope cl C env)) (fun ok s' => if ok = true then wpAny (model prog w) A (eval elt (compEnvC scope cl C env)) (fun y => Nxt s h₀ L m I oI C D S fun m₂' ys' news' => ys' = ys ∧ J (i + 1) m₂' (ys ++ [y]) news') ff s' else Nxt s h₀ L m I oI C D S (J (i + 1)) s') ff { s with heap := h, toks := tk })
    (done : ∀ m₂ ys news oC h tk, J n m₂ ys news → NsObj oC m₂ → Fr h₀ L h m → News h₀ L h ((C, oC) :: (D, lst ys) :: news) → Off3 I C D news → C ≠ D → S news → R (.ok .next) { s with heap := h, toks := tk })
    (F : Fr h₀ L s.heap m) (hC : NsObj oC m₂) (N : News h₀ L s.heap ((C, oC) :: (D, lst ys) :: news)) (off : Off3 I C D news) (ne : I ≠ C ∧ I ≠ D ∧ C ≠ D) (hS : S news) (hJ : J 0 m₂ ys news) :
    codeAny (model prog w) A (.compStart (.ListComp elt [⟨target₀, iter₀, ifs₀, 0⟩, ⟨.Name x px, iter, ifs, 0⟩] scope pos) 1 (.ref I) (.ref D) (compEnvC scope cl C env)) R s := by
  have loop := lc_last (prog := prog) (w := w) (A := A) (s := s) (R := R) (elt := elt) (iter := iter) (gens := [⟨target₀, iter₀, ifs₀, 0⟩, ⟨.Name x px, iter, ifs, 0⟩]) (scope := scope) (pos := pos) (px := px) (d := 1) (I := I) (C := C) (D := D) (cl := cl) (x := x) (ifs := ifs) (env := env)
    (compTurn_inner _ _ _ _ _ _ _ _ _ _ _ _) src.W src.io src.keep hkind hx hfp src.base hlen step done src.st F hC N src.ne off ne hS hJ
  exact compStart_inner loop (src.W.self 0 _ _ _ src.st loop)
inductive LcGo2 (prog : Program) (w : World) (A : Around) (h₀ : Heap) (L : Addr) (m : Str → Option Value) (env : Env) (e iter' : PySem.Expr) (ifs : List PySem.Expr) (scope : Scope) (cl : List (Str × Addr)) (x : Str) (fin : Shared → List Value → List (Addr × Obj) → Prop) (it : Value) (s : Shared) : Prop
  | mk (I : Addr) (fp : List Addr) (n : Nat) (P : Nat → Value → Prop) (St : Nat → Heap → Prop) (S : List (Addr × Obj) → Prop) (news : List (Addr × Obj)) (J : Nat → (Str → Option Value) → List Value → List (Addr × Obj) → Prop)
    (e1 : it = .ref I) (hh : A.handled = none) (src : Src prog w A h₀ L I fp n P St S s.heap) (F : Fr h₀ L s.heap m) (N : News h₀ L s.heap news) (off : ∀ p ∈ news, p.1 ≠ I) (hS : S news) (hJ : J 0 (fun _ => none) [] news)
    (go : 
      (∀ (C D : Addr) (i : Nat) (v : Value) (m₂ : Str → Option Value) (ys : List Value) (news : List (Addr × Obj)) (oI oC : Obj) (h : Heap) (tk : Nat), i < n → P i v → J i m₂ ys news → NsObj oC (fun z => if z = x then some v else m₂ z) → Fr h₀ L h m → News h₀ L h ((I, oI) :: (C, oC) :: (D, lst ys) :: news) → Off3 I C D news → (I ≠ C ∧ I ≠ D ∧ C ≠ D) → S news →
        wpAny (model prog w) A (tests ifs (compEnvC scope cl C env)) (fun ok s' => if ok = true then wpAny (model prog w) A (eval iter' (compEnvC scope cl C env)) (fun xv s₁ => wpAny (model prog w) A (pyIter xv) (fun it s₃ =>
          codeAny (model prog w) A (.compStart e 1 it (.ref D) (compEnvC scope cl C env)) (fun r s₄ => r = .ok .next ∧ Nxt s h₀ L m I oI C D S (J (i + 1)) s₄) s₃) ff s₁) ff s' else Nxt s h₀ L m I oI C D S (J (i + 1)) s') ff { s with heap := h, toks := tk }) ∧
      ∀ m₂ ys news', J n m₂ ys news' → S news' → fin s ys news') : LcGo2 prog w A h₀ L m env e iter' ifs scope cl x fin it s
theorem lc_run2 {elt iter iter' target' : PySem.Expr} {ifs ifs' : List PySem.Expr} {x : Str} {px : Pos} {scope : Scope} {cl : List (Str × Addr)} {pos : Pos} {it : Value} {fin : Shared → List Value → List (Addr × Obj) → Prop} {RR : Value → Addr → Result → Shared → Prop}
    (hcell : ∀ y ∈ scope.names, y.2 ≠ .cell) (hkind : scope.kind = .function) (hx : scope.names.lookup x = some .local) (hs : ∀ C v, foldedSetIterable iter' (compEnvC scope cl C env) v = pure v)
    (g : LcGo2 prog w A h₀ L m env (.ListComp elt [⟨.Name x px, iter, ifs, 0⟩, ⟨target', iter', ifs', 0⟩] scope pos) iter' ifs scope cl x fin it s)
    (hRR : ∀ D C oC h tk m₂ ys news, fin s ys news → Fr h₀ L h m → News h₀ L h ((C, oC) :: (D, lst ys) :: news) → NsObj oC m₂ → C ≠ D → (∀ p ∈ news, p.1 ≠ C ∧ p.1 ≠ D) → RR (.ref D) C (.ok .next) { s with heap := h, toks := tk }) :
    wpAny (model prog w) A (newList []) (fun acc s₃ => wpAny (model prog w) A (newFunctionEnv scope env.globals cl [] env.qual none .none (some env)) (fun cenv s₄ =>
      codeAny (model prog w) A (.compStart (.ListComp elt [⟨.Name x px, iter, ifs, 0⟩, ⟨target', iter', ifs', 0⟩] scope pos) 0 it acc { cenv with scope := relabel scope env }) (RR acc cenv.locals) s₄) E s₃) E s := by
  obtain ⟨I, fp, n, P, St, S, news, J, rfl, hh, src, F, N, offI, hS, hJ, go⟩ := g
  refine lc_open hcell hkind F N fun D C oC h' F' N' hC hCD hCn hDn old => ?_
  obtain ⟨T, fin'⟩ := go
  have hI : I < s.heap.objs.size := src.fp I (src.W.sub I (List.mem_singleton.mpr rfl))
  have hst : St 0 h' := src.W.frame _ _ _ src.st fun b _ o e => old b o e
  have offN : ∀ p ∈ news, p.1 ≠ I ∧ p.1 ≠ C ∧ p.1 ≠ D := fun p hp => by
    have lt := Heap.lt_size (N p hp).1
    exact ⟨offI p hp, fun e => absurd lt (by rw [e]; exact Nat.not_lt.mpr hCn), fun e => absurd lt (by rw [e]; exact Nat.not_lt.mpr hDn)⟩
  have ne : I ≠ C ∧ I ≠ D ∧ C ≠ D := ⟨fun e => absurd hI (by rw [e]; exact Nat.not_lt.mpr hCn), fun e => absurd hI (by rw [e]; exact Nat.not_lt.mpr hDn), hCD⟩
  have hfp : C ∉ fp ∧ D ∉ fp := ⟨fun hm => absurd (src.fp _ hm) (Nat.not_lt.mpr hCn), fun hm => absurd (src.fp _ hm) (Nat.not_lt.mpr hDn)⟩
  have loop := lc_outer (prog := prog) (w := w) (A := A) (s := { s with heap := h' }) (R := RR (.ref D) C) (elt := elt) (iter := iter) (gens := [⟨.Name x px, iter, ifs, 0⟩, ⟨target', iter', ifs', 0⟩]) (scope := scope) (pos := pos) (px := px) (I := I) (C := C) (D := D) (cl := cl) (x := x) (ifs := ifs) (env := env)
    rfl src.W src.io src.keep hkind hx hfp src.base (hs C) (fun i v m₂ ys news oI oC h tk hi hP hJ hC F N off ne hS => T C D i v m₂ ys news oI oC h tk hi hP hJ hC F N off ne hS)
    (fun m₂ ys news oC h tk hJ hC F N off hcd hS => hRR D C oC h tk m₂ ys news (fin' _ _ _ hJ hS) F N hC hcd fun p hp => (off.mem p hp).2) hst F' hC N' src.ne (Off3.of offN) ne hS hJ hh
  exact codeAny_compStart_list loop (src.W.self 0 _ _ _ hst loop)
theorem lcE2 {elt iter iter' target' : PySem.Expr} {ifs ifs' : List PySem.Expr} {x : Str} {px : Pos} {scope : Scope} {cl : List (Str × Addr)} {pos : Pos} {Q : Value → Shared → Prop}
    (hclos : closureFor scope env = pure cl) (hcell : ∀ y ∈ scope.names, y.2 ≠ .cell) (hkind : scope.kind = .function)
    (hnames : ∀ y ∈ scope.names, y.2 = .local → scope.names.lookup y.1 = some .local) (hx : scope.names.lookup x = some .local)
    (hs : ∀ x, foldedSetIterable iter env x = pure x) (hs' : ∀ C v, foldedSetIterable iter' (compEnvC scope cl C env) v = pure v)
    (h : wpAny (model prog w) A (eval iter env) (fun xv s₁ => wpAny (model prog w) A (pyIter xv) (LcGo2 prog w A h₀ L m env (.ListComp elt [⟨.Name x px, iter, ifs, 0⟩, ⟨target', iter', ifs', 0⟩] scope pos) iter' ifs scope cl x (finE h₀ L m Q)) E s₁) E s) :
    wpAny (model prog w) A (eval (.ListComp elt [⟨.Name x px, iter, ifs, 0⟩, ⟨target', iter', ifs', 0⟩] scope pos) env) Q E s := by
  rw [eval_ListComp]
  refine wpAny_comprehension_free (use := none) rfl hs hclos hkind hnames (wpAny_mono h (fun xv s₁ h₁ => wpAny_mono h₁ (fun it s₂ h₂ => lc_run2 hcell hkind hx hs' h₂ ?_) fun _ _ e => e) fun _ _ e => e)
  intro D C oC h tk m₂ ys news fin F N hC hCD off
  refine ⟨m₂, hC.ns (N (C, oC) List.mem_cons_self).1, fun h'' hs'' => fin D h'' tk (F.change hs'' (N (C, oC) List.mem_cons_self).2.1 (N (C, oC) List.mem_cons_self).2.2) (fun p hp => ?_) fun p hp => (off p hp).2⟩
  have z := N p (List.mem_cons_of_mem _ hp)
  refine ⟨hs''.extBut _ _ ?_ z.1, z.2⟩
  rcases List.mem_cons.mp hp with rfl | hp
  · exact Ne.symm hCD
  · exact (off p hp).1
theorem lcA2 {elt iter iter' target' : PySem.Expr} {ifs ifs' : List PySem.Expr} {x y : Str} {px py : Pos} {scope : Scope} {cl : List (Str × Addr)} {pos spos : Pos} {Q : Flow → Shared → Prop} (hLe : env.locals = L)
    (hsw : swapsWith (.ListComp elt [⟨.Name x px, iter, ifs, 0⟩, ⟨target', iter', ifs', 0⟩] scope pos) (some (.Name y py)) spos.line env = pure true)
    (hclos : closureFor scope env = pure cl) (hcell : ∀ y ∈ scope.names, y.2 ≠ .cell) (hkind : scope.kind = .function)
    (hnames : ∀ y ∈ scope.names, y.2 = .local → scope.names.lookup y.1 = some .local) (hx : scope.names.lookup x = some .local)
    (hy : env.kindOf y = some .local) (hp : (env.scope.kind == .class || (env.scope.kind == .module && env.locals != env.globals)) = false)
    (hs : ∀ x, foldedSetIterable iter env x = pure x) (hs' : ∀ C v, foldedSetIterable iter' (compEnvC scope cl C env) v = pure v)
    (h : wpAny (model prog w) A (eval iter env) (fun xv s₁ => wpAny (model prog w) A (pyIter xv) (LcGo2 prog w A h₀ L m env (.ListComp elt [⟨.Name x px, iter, ifs, 0⟩, ⟨target', iter', ifs', 0⟩] scope pos) iter' ifs scope cl x (finA h₀ L m y Q)) E s₁) E s) :
    wpAny (model prog w) A (exec (.Assign [.Name y py] (.ListComp elt [⟨.Name x px, iter, ifs, 0⟩, ⟨target', iter', ifs', 0⟩] scope pos) spos) env) Q E s := by
  subst hLe
  rw [exec_Assign_Name_used _ _ _ _ hsw]
  refine wpAny_bind (wpAny_standAt (wpAny_bind ?_))
  show wpAny _ _ (do let _ ← comprehension (.ListComp elt [⟨.Name x px, iter, ifs, 0⟩, ⟨target', iter', ifs', 0⟩] scope pos) scope env _ (newList []) false (eval iter env) (some (assign (.Name y py) env))) _ _ s
  refine wpAny_bind (wpAny_mono (wpAny_comprehension_free (use := some (assign (.Name y py) env)) (Q := fun _ s' => Q .next s') rfl hs hclos hkind hnames
    (wpAny_mono h (fun xv s₁ h₁ => wpAny_mono h₁ (fun it s₂ h₂ => lc_run2 hcell hkind hx hs' h₂ ?_) fun _ _ e => e) fun _ _ e => e)) (fun _ s' hq => wpAny_pure (wpAny_pure hq)) fun _ _ e => e)
  intro D C oC h tk m₂ ys news fin F N hC hCD off
  show wpAny _ A (assign (.Name y py) env (.ref D)) _ _ _
  refine wpAny_assign_Name (wpAny_storeName_local hy F.ns (fun h₂ hn₂ hs₂ => ?_) hp)
  have hCL := (N (C, oC) List.mem_cons_self).2.1
  have hC₀ := (N (C, oC) List.mem_cons_self).2.2
  have hL₀ : h₀.get? env.locals = none := Heap.get?_none_of_le F.above
  have F₂ : Fr h₀ env.locals h₂ (fun z => if z = y then some (.ref D) else m z) := ⟨hn₂, fun b o e => hs₂.extBut b o (fun q => by rw [q, hL₀] at e; cases e) (F.keep b o e), F.above⟩
  refine ⟨m₂, (hC.ns (N (C, oC) List.mem_cons_self).1).sameBut hs₂ hCL, fun h'' hs'' => fin D h'' _ (F₂.change hs'' hCL hC₀) (fun p hp => ?_) fun p hp => (off p hp).2⟩
  have z := N p (List.mem_cons_of_mem _ hp)
  refine ⟨hs''.extBut _ _ ?_ (hs₂.extBut _ _ z.2.1 z.1), z.2⟩
  rcases List.mem_cons.mp hp with rfl | hp
  · exact Ne.symm hCD
  · exact (off p hp).1
end
end Mine
end
section
open PySem PySem.W PySem.Calls PyProof.Rows PyProof.Rows.LCg
set_option maxRecDepth 100000
namespace Mine
section
variable {prog : Program} {w : World} {A : Around} {s : Shared} {h₀ : Heap} {L : Addr} {m : Str → Option Value} {env : Env} {R : Result → Shared → Prop} {E : Value → Shared → Prop}
theorem compTurn_lastT (elt target iter : PySem.Expr) (ifs : List PySem.Expr) (scope : Scope) (pos : Pos) (it acc : Value) (env : Env) :
    compTurn (.ListComp elt [⟨target, iter, ifs, 0⟩] scope pos) 0 it acc env = lastTurn elt target iter ifs (.ListComp elt [⟨target, iter, ifs, 0⟩] scope pos) 0 it acc env := by rfl
theorem lc_pairs {elt iter : PySem.Expr} {scope : Scope} {pos pa pb pt : Pos} {kt : Nat} {I C D ax : Addr} {cl : List (Str × Addr)} {xa xb : Str} {ifs : List PySem.Expr} {its : Array Value} {P2 : Nat → Value → Value → Prop} {S : List (Addr × Obj) → Prop}
    (J : Nat → (Str → Option Value) → List Value → List (Addr × Obj) → Prop) {m₂ : Str → Option Value} {oC : Obj} {ys : List Value} {news : List (Addr × Obj)}
    (hh : A.handled = none) (hS : ∀ news, S news → SrcAt h₀ ax its news)
    (hT : ∀ i v h news, its[i]? = some v → S news → (∀ b o, h₀.get? b = some o → h.get? b = some o) → News h₀ L h news → ∃ a va vb, v = .ref a ∧ h.IsTuple a #[va, vb] ∧ P2 i va vb)
    (hkind : scope.kind = .function) (hxa : scope.names.lookup xa = some .local) (hxb : scope.names.lookup xb = some .local) (hIx : ax ≠ I) (hfp : C ≠ ax ∧ D ≠ ax) (hI₀ : h₀.get? I = none)
    (hlen : ∀ i m₂ ys news, J i m₂ ys news → ys.length ≤ sizeLine)
    (step : ∀ i va vb m₂ ys news oI oC h tk, i < its.size → P2 i va vb → J i m₂ ys news → NsObj oC (fun z => if z = xb then some vb else if z = xa then some va else m₂ z) → Fr h₀ L h m → News h₀ L h ((I, oI) :: (C, oC) :: (D, lst ys) :: news) → Off3 I C D news → (I ≠ C ∧ I ≠ D ∧ C ≠ D) → S news →
      wpAny (model prog w) A (tests ifs (compEnvC scope cl C env)) (fun ok s' => if ok = true then wpAny (model prog w) A (eval elt (compEnvC scope cl C env)) (fun y => Nxt s h₀ L m I oI C D S fun m₂' ys' news' => ys' = ys ∧ J (i + 1) m₂' (ys ++ [y]) news') ff s' else Nxt s h₀ L m I oI C D S (J (i + 1)) s') ff { s with heap := h, toks := tk })
    (done : ∀ m₂ ys news oC h tk, J its.size m₂ ys news → NsObj oC m₂ → Fr h₀ L h m → News h₀ L h ((C, oC) :: (D, lst ys) :: news) → Off3 I C D news → C ≠ D → S news → R (.ok .next) { s with heap := h, toks := tk })
    (hst : s.heap.IsListIter I ax 0) (F : Fr h₀ L s.heap m) (hC : NsObj oC m₂) (N : News h₀ L s.heap ((C, oC) :: (D, lst ys) :: news)) (hIL : L ≠ I) (off : Off3 I C D news) (ne : I ≠ C ∧ I ≠ D ∧ C ≠ D) (hSn : S news) (hJ : J 0 m₂ ys news) :
    codeAny (model prog w) A (.compLoop (.ListComp elt [⟨.Tuple [.Name xa pa, .Name xb pb] kt pt, iter, ifs, 0⟩] scope pos) 0 (.ref I) (.ref D) (compEnvC scope cl C env)) R s := by
  have loop : ∀ s₃ : Shared, s₃ = s → codeAny (model prog w) A (.compLoop (.ListComp elt [⟨.Tuple [.Name xa pa, .Name xb pb] kt pt, iter, ifs, 0⟩] scope pos) 0 (.ref I) (.ref D) (compEnvC scope cl C env)) R s₃ := by
    rintro s₃ rfl
    refine codeAny_loop rfl
      (LcInv s₃ h₀ L m I C D its.size (fun i h => h.IsListIter I ax i) S J) (fun k s' hI => ?_) (its.size + 1)
      ⟨s₃.heap, _, 0, ys, m₂, oC, news, rfl, Nat.zero_le _, rfl, hst, F, hC, N, off, hSn, hJ⟩
    refine hideP fun G hG => ?_
    obtain ⟨h', tk, i, ys, m', oC', news', rfl, hi, rfl, hst', F', hC', N', off', hS', hJ'⟩ := hI
    refine hG ?_
    clear hG G
    show wpAny _ A ((compTurn (.ListComp elt [⟨.Tuple [.Name xa pa, .Name xb pb] kt pt, iter, ifs, 0⟩] scope pos) 0 (.ref I) (.ref D) (compEnvC scope cl C env)).onRaise (fun x => do noteFrame x (compEnvC scope cl C env); theTreesLotGoes x)) _ _ _
    refine wpAny_noted ?_
    rw [compTurn_lastT]
    have hCL : C ≠ L := (N' (C, oC') List.mem_cons_self).2.1
    have hC₀ : h₀.get? C = none := (N' (C, oC') List.mem_cons_self).2.2
    have hD := N' (D, lst ys) (List.mem_cons_of_mem _ List.mem_cons_self)
    have N'n : News h₀ L h' news' := fun p hp => N' p (List.mem_cons_of_mem _ (List.mem_cons_of_mem _ hp))
    have hl : h'.IsList ax its := (hS _ hS').list F'.keep N'n
    refine wpAny_bind (wpAny_standAt (wpAny_bind ?_))
    by_cases hlt : i < its.size
    · obtain ⟨a, va, vb, hv, hta, hP2⟩ := hT i its[i] h' news' (by simp [hlt]) hS' F'.keep N'n
      refine wpAny_pyNext_list_item hst' hl (x := .ref a) (by rw [← hv]; simp [hlt]) fun h₂ hst₂ hs₂ => ?_
      replace hs₂ : Heap.SameBut I h' h₂ := hs₂
      have hta₂ : h₂.IsTuple a #[va, vb] := by
        have hne : a ≠ I := fun e => by
          obtain ⟨o, ho, hc, _⟩ := hta; obtain ⟨o', ho', hc', _⟩ := hst'
          rw [e, ho'] at ho; cases ho; rw [hc'] at hc; injection hc with hc; exact absurd hc (by decide)
        exact hta.extBut hs₂.extBut hne
      refine wpAny_bind (wpAny_letOwnedTupleGo_listiter hst₂ ?_)
      refine wpAny_bind (wpAny_assign_Tuple hh hta₂ rfl rfl fun h₃ hx₃ => ?_)
      replace hx₃ : Heap.ExtBut h₂.objs.size h₂ h₃ := hx₃
      have up₃ : ∀ b o, b ≠ I → h'.get? b = some o → h₃.get? b = some o := fun b o hb e => hx₃ b o (Nat.ne_of_lt (Heap.lt_size (hs₂.extBut b o hb e))) (hs₂.extBut b o hb e)
      have hst₃ : h₃.IsListIter I ax (i + 1) := hst₂.at fun o e => hx₃ _ o (Nat.ne_of_lt (Heap.lt_size e)) e
      show wpAny _ _ (do holding [vb] (assign (.Name xa pa) (compEnvC scope cl C env) va); holding [] (assign (.Name xb pb) (compEnvC scope cl C env) vb); pure ()) _ _ _
      refine wpAny_bind (wpAny_holding (wpAny_assign_Name (wpAny_storeName_local (lookup_relabel_local hxa) ((hC'.ns (N' (C, oC') List.mem_cons_self).1).at' fun o e => up₃ _ o (Ne.symm ne.1) e) (fun h₄ hn₄ hs₄ => ?_) (by simp [compEnvC, relabel, hkind]))))
      replace hs₄ : Heap.SameBut C h₃ h₄ := hs₄
      refine wpAny_bind (wpAny_holding (wpAny_assign_Name (wpAny_storeName_local (lookup_relabel_local hxb) hn₄ (fun h₅ hn₅ hs₅ => wpAny_pure ?_) (by simp [compEnvC, relabel, hkind]))))
      replace hs₅ : Heap.SameBut C h₄ h₅ := hs₅
      have up₅ : ∀ b o, b ≠ C → h₃.get? b = some o → h₅.get? b = some o := fun b o hb e => hs₅.extBut b o hb (hs₄.extBut b o hb e)
      have hst₅ : h₅.IsListIter I ax (i + 1) := hst₃.at fun o e => up₅ _ o ne.1 e
      obtain ⟨oI, heI, _⟩ := id hst₅
      obtain ⟨oC₅, heC, hoC⟩ := ns_obj hn₅
      have F₅ : Fr h₀ L h₅ m := ⟨(F'.ns.at' fun o e => up₃ _ o hIL e).at' fun o e => up₅ _ o (Ne.symm hCL) e, fun b o e => up₅ b o (fun q => by rw [q, hC₀] at e; cases e) (up₃ b o (fun q => by rw [q, hI₀] at e; cases e) (F'.keep b o e)), F'.above⟩
      have off3 := off'.mem
      have N₅ : News h₀ L h₅ ((I, oI) :: (C, oC₅) :: (D, lst ys) :: news') := fun p hp => by
        rcases List.mem_cons.mp hp with rfl | hp
        · exact ⟨heI, Ne.symm hIL, hI₀⟩
        · rcases List.mem_cons.mp hp with rfl | hp
          · exact ⟨heC, hCL, hC₀⟩
          · have zz := N' p (List.mem_cons_of_mem _ hp)
            have hne : p.1 ≠ I ∧ p.1 ≠ C := by
              rcases List.mem_cons.mp hp with rfl | hp
              · exact ⟨Ne.symm ne.2.1, Ne.symm ne.2.2⟩
              · exact ⟨(off3 p hp).1, (off3 p hp).2.1⟩
            exact ⟨up₅ _ _ hne.2 (up₃ _ _ hne.1 zz.1), zz.2⟩
      refine wpAny_bind (wpAny_mono (step i va vb m' ys news' oI oC₅ h₅ _ hlt hP2 hJ' (by simpa using hoC) F₅ N₅ off' ne hS') (fun ok s₄ h₄ => ?_) fun _ _ e => e.elim)
      have again_ : ∀ h₆ oC₆ ys₆ news₆, (I, oI) ∈ (I, oI) :: (C, oC₆) :: (D, lst ys₆) :: news₆ → News h₀ L h₆ ((I, oI) :: (C, oC₆) :: (D, lst ys₆) :: news₆) → h₆.IsListIter I ax (i + 1) := fun h₆ oC₆ ys₆ news₆ hm N₆ => by
        obtain ⟨o, ho, r⟩ := hst₅
        rw [heI] at ho; cases ho
        exact ⟨oI, (N₆ _ hm).1, r⟩
      cases ok with
      | false =>
        simp only [Bool.false_eq_true, if_false] at h₄ ⊢
        refine hideP fun G hG => ?_
        obtain ⟨h₆, tk₆, m₆, oC₆, ys₆, news₆, rfl, F₆, N₆, hC₆, off₆, hS₆, hJ₆⟩ := h₄
        refine hG ?_
        clear hG G
        exact wpAny_pure ⟨rfl, its.size + 1 - (i + 1), by omega, h₆, tk₆, i + 1, ys₆, m₆, oC₆, news₆, rfl, hlt, rfl, again_ _ _ _ _ List.mem_cons_self N₆, F₆, hC₆, fun p hp => N₆ p (List.mem_cons_of_mem _ hp), off₆, hS₆, hJ₆⟩
      | true =>
        simp only [if_true] at h₄ ⊢
        refine wpAny_bind (wpAny_bind (wpAny_mono h₄ (fun y s₅ h₅' => ?_) fun _ _ e => e.elim))
        refine hideP fun G hG => ?_
        obtain ⟨h₆, tk₆, m₆, oC₆, ys₆, news₆, rfl, F₆, N₆, hC₆, off₆, hS₆, rfl, hJ₆⟩ := h₅'
        refine hG ?_
        clear hG G
        have zC := (N₆ (C, oC₆) (List.mem_cons_of_mem _ List.mem_cons_self)).1
        have zD := N₆ (D, lst ys₆) (List.mem_cons_of_mem _ (List.mem_cons_of_mem _ List.mem_cons_self))
        have N₆' : News h₀ L h₆ news₆ := fun p hp => N₆ p (List.mem_cons_of_mem _ (List.mem_cons_of_mem _ (List.mem_cons_of_mem _ hp)))
        have st₆ := again_ _ _ _ _ List.mem_cons_self N₆
        refine wpAny_bind (append_at (hsz := by show ys₆.toArray.size ≤ sizeLine; rw [List.size_toArray]; exact hlen _ _ _ _ hJ') zD.1 fun h₇ hs₇ hD₇ => ?_)
        have off6 := off₆.mem
        refine wpAny_pure (wpAny_pure ⟨rfl, its.size + 1 - (i + 1), by omega, h₇, tk₆, i + 1, ys₆ ++ [y], m₆, oC₆, news₆, rfl, hlt, rfl, st₆.at fun o e => hs₇.extBut _ o ne.2.1 e, F₆.change hs₇ zD.2.1 zD.2.2, hC₆, fun p hp => ?_, off₆, hS₆, hJ₆⟩)
        rcases List.mem_cons.mp hp with rfl | hp
        · exact ⟨hs₇.extBut _ _ ne.2.2 zC, hCL, hC₀⟩
        · rcases List.mem_cons.mp hp with rfl | hp
          · exact ⟨hD₇.trans (congrArg some (lst_snoc ys₆ y)), zD.2⟩
          · exact ⟨hs₇.extBut _ _ (off6 p hp).2.2 (N₆' p hp).1, (N₆' p hp).2⟩
    · obtain rfl : i = its.size := Nat.le_antisymm hi (Nat.not_lt.mp hlt)
      refine wpAny_pyNext_list_end hh hst' hl (by simp) fun h₂ hx₂ => wpAny_pure ?_
      have off3 := off'.mem
      refine done _ _ _ _ h₂ _ hJ' hC' ⟨F'.ns.extBut hx₂ hIL, fun b o e => hx₂ b o (fun q => by rw [q, hI₀] at e; cases e) (F'.keep b o e), F'.above⟩ (fun p hp => ?_) off' ne.2.2 hS'
      have hne : p.1 ≠ I := by
        rcases List.mem_cons.mp hp with rfl | hp
        · exact Ne.symm ne.1
        · rcases List.mem_cons.mp hp with rfl | hp
          · exact Ne.symm ne.2.1
          · exact (off3 p hp).1
      exact ⟨hx₂ _ _ hne (N' p hp).1, (N' p hp).2⟩
  exact loop s rfl
inductive LcPairs (prog : Program) (w : World) (A : Around) (h₀ : Heap) (L : Addr) (m : Str → Option Value) (env : Env) (elt : PySem.Expr) (ifs : List PySem.Expr) (scope : Scope) (cl : List (Str × Addr)) (xa xb : Str) (fin : Shared → List Value → List (Addr × Obj) → Prop) (xv : Value) (s : Shared) : Prop
  | mk (ax : Addr) (its : Array Value) (P2 : Nat → Value → Value → Prop) (S : List (Addr × Obj) → Prop) (news : List (Addr × Obj)) (J : Nat → (Str → Option Value) → List Value → List (Addr × Obj) → Prop) (e1 : xv = .ref ax) (hh : A.handled = none) (F : Fr h₀ L s.heap m) (N : News h₀ L s.heap news) (hS : S news) (hJ : J 0 (fun _ => none) [] news)
    (hl : ∀ news, S news → SrcAt h₀ ax its news)
    (hp : ∀ i v h news, its[i]? = some v → S news → (∀ b o, h₀.get? b = some o → h.get? b = some o) → News h₀ L h news → ∃ a va vb, v = .ref a ∧ h.IsTuple a #[va, vb] ∧ P2 i va vb)
    (hz : ∀ i m₂ ys news, J i m₂ ys news → ys.length ≤ sizeLine)
    (go : 
      (∀ (I C D : Addr) (i : Nat) (va vb : Value) (m₂ : Str → Option Value) (ys : List Value) (news : List (Addr × Obj)) (oI oC : Obj) (h : Heap) (tk : Nat), i < its.size → P2 i va vb → J i m₂ ys news → NsObj oC (fun z => if z = xb then some vb else if z = xa then some va else m₂ z) → Fr h₀ L h m → News h₀ L h ((I, oI) :: (C, oC) :: (D, lst ys) :: news) → Off3 I C D news → (I ≠ C ∧ I ≠ D ∧ C ≠ D) → S news →
        wpAny (model prog w) A (tests ifs (compEnvC scope cl C env)) (fun ok s' => if ok = true then wpAny (model prog w) A (eval elt (compEnvC scope cl C env)) (fun y => Nxt s h₀ L m I oI C D S fun m₂' ys' news' => ys' = ys ∧ J (i + 1) m₂' (ys ++ [y]) news') ff s' else Nxt s h₀ L m I oI C D S (J (i + 1)) s') ff { s with heap := h, toks := tk }) ∧
      ∀ m₂ ys news', J its.size m₂ ys news' → S news' → fin s ys news') : LcPairs prog w A h₀ L m env elt ifs scope cl xa xb fin xv s
theorem lcPE {elt iter : PySem.Expr} {ifs : List PySem.Expr} {xa xb : Str} {pa pb pt : Pos} {kt : Nat} {scope : Scope} {cl : List (Str × Addr)} {pos : Pos} {Q : Value → Shared → Prop}
    (hclos : closureFor scope env = pure cl) (hcell : ∀ y ∈ scope.names, y.2 ≠ .cell) (hkind : scope.kind = .function)
    (hnames : ∀ y ∈ scope.names, y.2 = .local → scope.names.lookup y.1 = some .local) (hxa : scope.names.lookup xa = some .local) (hxb : scope.names.lookup xb = some .local)
    (hs : ∀ x, foldedSetIterable iter env x = pure x)
    (h : wpAny (model prog w) A (eval iter env) (fun xv s₁ => LcPairs prog w A h₀ L m env elt ifs scope cl xa xb (finE h₀ L m Q) xv s₁) E s) :
    wpAny (model prog w) A (eval (.ListComp elt [⟨.Tuple [.Name xa pa, .Name xb pb] kt pt, iter, ifs, 0⟩] scope pos) env) Q E s := by
  rw [eval_ListComp]
  refine wpAny_comprehension_free (use := none) rfl hs hclos hkind hnames (wpAny_mono h (fun xv s₁ h₁ => ?_) fun _ _ e => e)
  obtain ⟨ax, its, P2, S, news, J, rfl, hh, F, N, hSn, hJ, hSa, hT, hlen, go⟩ := h₁
  have hl : s₁.heap.IsList ax its := (hSa _ hSn).list F.keep N
  have hlt : ax < s₁.heap.objs.size := by obtain ⟨_, e, _⟩ := hl; exact Heap.lt_size e
  obtain ⟨F', N', offI⟩ := pushI (o := { cls := .type "list_iterator", data := .fields #[.ref ax, .int 0 0] }) F N
  refine wpAny_pyIter_list hl ?_
  have hI₀ : h₀.get? s₁.heap.objs.size = none := next_is_new F
  have hit : (s₁.heap.push { cls := .type "list_iterator", data := .fields #[.ref ax, .int 0 0] }).IsListIter s₁.heap.objs.size ax 0 := ⟨_, Heap.get?_push_size _ rfl, rfl, rfl⟩
  have hLI : L ≠ s₁.heap.objs.size := Nat.ne_of_lt F.ns.lt
  have hz : (s₁.heap.push { cls := .type "list_iterator", data := .fields #[.ref ax, .int 0 0] }).objs.size = s₁.heap.objs.size + 1 := Heap.size_push ..
  generalize s₁.heap.push { cls := .type "list_iterator", data := .fields #[.ref ax, .int 0 0] } = H at F' N' hit hz ⊢
  generalize s₁.heap.objs.size = I at *
  refine lc_open (s := { s₁ with heap := H }) hcell hkind F' N' fun D C oC h' F'' N'' hC hCD hCn hDn old => ?_
  obtain ⟨T, fin'⟩ := go
  dsimp only at hCn hDn old
  rw [hz] at hCn hDn
  have hIC : I ≠ C := Nat.ne_of_lt (Nat.lt_of_succ_le hCn)
  have hID : I ≠ D := Nat.ne_of_lt (Nat.lt_of_succ_le hDn)
  have offN : ∀ p ∈ news, p.1 ≠ I ∧ p.1 ≠ C ∧ p.1 ≠ D := fun p hp => by
    have lt : p.1 < I + 1 := hz ▸ Heap.lt_size (N' p hp).1
    exact ⟨offI p hp, fun e => absurd lt (by rw [e]; exact Nat.not_lt.mpr hCn), fun e => absurd lt (by rw [e]; exact Nat.not_lt.mpr hDn)⟩
  have loop := lc_pairs (prog := prog) (w := w) (A := A) (s := { s₁ with heap := h' }) (h₀ := h₀) (L := L) (m := m) (env := env) (R := compPost (model prog w) A E none Q (.ref D) C) (elt := elt) (iter := iter) (scope := scope) (pos := pos) (pa := pa) (pb := pb) (pt := pt) (kt := kt) (I := I) (C := C) (D := D) (ax := ax) (cl := cl) (xa := xa) (xb := xb) (ifs := ifs) (its := its) (P2 := P2) (S := S)
    J hh hSa hT hkind hxa hxb (Nat.ne_of_lt hlt) ⟨Nat.ne_of_gt (Nat.lt_of_lt_of_le hlt (Nat.le_of_succ_le hCn)), Nat.ne_of_gt (Nat.lt_of_lt_of_le hlt (Nat.le_of_succ_le hDn))⟩ hI₀ hlen (fun i va vb m₂ ys news oI oC h tk a b c d e f g h1 h2 => T I C D i va vb m₂ ys news oI oC h tk a b c d e f g h1 h2)
    (fun m₂ ys news oC h tk hJ hC F N off hcd hS => ?_) (hit.at fun o e => old _ o e) F'' hC N'' hLI (Off3.of offN) ⟨hIC, hID, hCD⟩ hSn hJ
  · exact codeAny_compStart_list loop (wpAny_pyIter_listiter (hit.at fun o e => old _ o e) loop)
  · refine ⟨m₂, hC.ns (N (C, oC) List.mem_cons_self).1, fun h'' hs'' => fin' m₂ ys news hJ hS D h'' tk (F.change hs'' (N (C, oC) List.mem_cons_self).2.1 (N (C, oC) List.mem_cons_self).2.2) (fun p hp => ?_) fun p hp => (off.mem p hp).2.2⟩
    have z := N p (List.mem_cons_of_mem _ hp)
    refine ⟨hs''.extBut _ _ ?_ z.1, z.2⟩
    rcases List.mem_cons.mp hp with rfl | hp
    · exact Ne.symm hcd
    · exact (off.mem p hp).2.1
theorem store_cell {x : Str} {c : Addr} {o : Obj} {v₀ : Option Value} {v : Value} {own rest : List (Addr × Obj)} {Q : Unit → Shared → Prop} (F : Fr h₀ L s.heap m) (N : News h₀ L s.heap (own ++ (c, o) :: rest)) (h1 : ∀ p ∈ own, p.1 ≠ c) (h2 : ∀ p ∈ rest, p.1 ≠ c) (hd : o.data = .cell v₀)
    (hk : env.scope.kind = .function) (hl : env.kindOf x = some .cell) (hc : env.cells.lookup x = some c)
    (h : ∀ h' o', Fr h₀ L h' m → News h₀ L h' (own ++ (c, o') :: rest) → o'.data = .cell (some v) → Q () { s with heap := h' }) : wpAny (model prog w) A (storeName env x v) Q E s := by
  have hmem := N (c, o) (List.mem_append_right _ (.head _))
  refine wpAny_storeName_cell hk hl hc ⟨o, hmem.1, hd⟩ fun h' hv hs => ?_
  obtain ⟨o', ho', hd'⟩ := hv
  refine h h' o' ⟨F.ns.sameBut hs (Ne.symm hmem.2.1), fun b ob e => (hs.2 b (fun q => ?_)).trans (F.keep b ob e), F.above⟩ (N.setAt h1 h2 hs ho') hd'
  rw [q, hmem.2.2] at e; cases e
end
end Mine
end
section
open PySem PySem.W PySem.Calls PyProof.Rows PyProof.Rows.LCg
namespace Mine
section
variable {prog : Program} {w : World} {A : Around} {s : Shared} {h₀ : Heap} {L : Addr} {m : Str → Option Value} {env : Env} {R : Result → Shared → Prop} {E : Value → Shared → Prop}
theorem lc_in {elt iter target₀ iter₀ : PySem.Expr} {ifs ifs₀ : List PySem.Expr} {scope : Scope} {pos px : Pos} {I I1 C D : Addr} {oI1 : Obj} {cl : List (Str × Addr)} {x : Str} {fx : List Addr} {n : Nat} {P : Nat → Value → Prop} {St : Nat → Heap → Prop} {S : List (Addr × Obj) → Prop}
    (J : Nat → (Str → Option Value) → List Value → List (Addr × Obj) → Prop) {m₂ : Str → Option Value} {oC : Obj} {ys : List Value} {news : List (Addr × Obj)}
    (src : Src prog w A h₀ L I (I :: fx) n P St S s.heap) (hkind : scope.kind = .function) (hx : scope.names.lookup x = some .local) (hfx : C ∉ fx ∧ D ∉ fx)
    (hlen : ∀ i m₂ ys news, J i m₂ ys news → ys.length ≤ sizeLine)
    (F : Fr h₀ L s.heap m) (hC : NsObj oC m₂) (N : News h₀ L s.heap ((I1, oI1) :: (C, oC) :: (D, lst ys) :: news)) (offN : ∀ p ∈ (I1, oI1) :: (C, oC) :: (D, lst ys) :: news, p.1 ≠ I) (off : Off3 I1 C D news) (ne : I1 ≠ C ∧ I1 ≠ D ∧ C ≠ D) (hS : S ((I1, oI1) :: news)) (hJ : J 0 m₂ ys ((I1, oI1) :: news))
    (step : ∀ i v m₂ ys news oI oC h tk, i < n → P i v → J i m₂ ys news → NsObj oC (fun z => if z = x then some v else m₂ z) → Fr h₀ L h m → News h₀ L h ((I, oI) :: (C, oC) :: (D, lst ys) :: news) → Off3 I C D news → (I ≠ C ∧ I ≠ D ∧ C ≠ D) → S news →
      wpAny (model prog w) A (tests ifs (compEnvC scope cl C env)) (fun ok s' => if ok = true then wpAny (model prog w) A (eval elt (compEnvC scope cl C env)) (fun y => Nxt s h₀ L m I oI C D S fun m₂' ys' news' => ys' = ys ∧ J (i + 1) m₂' (ys ++ [y]) news') ff s' else Nxt s h₀ L m I oI C D S (J (i + 1)) s') ff { s with heap := h, toks := tk })
    (done : ∀ m₂ ys news oC h tk, J n m₂ ys news → NsObj oC m₂ → Fr h₀ L h m → News h₀ L h ((C, oC) :: (D, lst ys) :: news) → Off3 I C D news → C ≠ D → S news → R (.ok .next) { s with heap := h, toks := tk }) :
    codeAny (model prog w) A (.compStart (.ListComp elt [⟨target₀, iter₀, ifs₀, 0⟩, ⟨.Name x px, iter, ifs, 0⟩] scope pos) 1 (.ref I) (.ref D) (compEnvC scope cl C env)) R s := by
  have cI : C ≠ I := offN (C, oC) (.tail _ (.head _))
  have dI : D ≠ I := offN (D, lst ys) (.tail _ (.tail _ (.head _)))
  refine lc_inner J src hkind hx ⟨fun hm => (List.mem_cons.mp hm).elim cI hfx.1, fun hm => (List.mem_cons.mp hm).elim dI hfx.2⟩ hlen step done F hC (News_pick N 3 [1, 2, 0]) (Off3.of fun q hq => ?_) ⟨cI.symm, dI.symm, ne.2.2⟩ hS hJ
  rcases List.mem_cons.mp hq with rfl | hq
  · exact ⟨offN (I1, oI1) (.head _), ne.1, ne.2.1⟩
  · exact ⟨offN q (.tail _ (.tail _ (.tail _ hq))), (off.mem q hq).2⟩
theorem Nxt_done {I I1 C D : Addr} {oI1 oC : Obj} {S : List (Addr × Obj) → Prop} {K : (Str → Option Value) → List Value → List (Addr × Obj) → Prop} {h' : Heap} {tk' : Nat} {m₂ : Str → Option Value} {ys : List Value} {news : List (Addr × Obj)}
    (F : Fr h₀ L h' m) (N : News h₀ L h' ((C, oC) :: (D, lst ys) :: (I1, oI1) :: news)) (hC : NsObj oC m₂) (off : Off3 I C D ((I1, oI1) :: news)) (hI : ∀ q ∈ news, q.1 ≠ I1) (hS : S news) (k : K m₂ ys news) :
    Nxt s h₀ L m I1 oI1 C D S K { s with heap := h', toks := tk' } :=
  Nxt.intro F (News_pick N 3 [2, 0, 1]) news hC (fun _ h => h) (Off3.of fun q hq => ⟨hI q hq, (off.mem q (.tail _ hq)).2⟩) hS k
end
theorem at_nat {xs : List Value} {x : Nat} {v : Value} (h : xs[x]? = some v) : xs.toArray[((x : Nat) : Int).toNat]? = some v := by simpa using h
theorem at_nat0 {xs : List Value} {x : Nat} {v : Value} (h : xs[x]? = some v) : xs.toArray[((0 : Int) + (x : Nat)).toNat]? = some v := by
  rw [show ((0 : Int) + (x : Int)).toNat = x by omega]; simpa using h
theorem at_nat1 {xs : List Value} {x : Nat} {v : Value} (h : xs[x + 1]? = some v) : xs.toArray[((0 : Int) + (x : Nat) + 1).toNat]? = some v := by
  rw [show ((0 : Int) + (x : Int) + 1).toNat = x + 1 by omega]; simpa using h
theorem at_last {xs : List Value} {n : Nat} {v : Value} (hn : 0 < n) (hl : xs.length = n) (h : xs[n - 1]? = some v) : xs.toArray[((-1 : Int) + (xs.length : Int)).toNat]? = some v := by
  rw [show ((-1 : Int) + (xs.length : Int)).toNat = n - 1 by omega]; simpa using h
theorem mem_ins {a b c d x q : Addr × Obj} {FX tl : List (Addr × Obj)} (h : q ∈ a :: b :: c :: d :: (FX ++ x :: tl)) : q ∈ x :: a :: b :: c :: d :: (FX ++ tl) := by
  simp only [List.mem_cons, List.mem_append] at h ⊢
  rcases h with h | h | h | h | h | h | h <;> simp [h]
theorem off_ins {P : Addr × Obj → Prop} {d x : Addr × Obj} {FX tl : List (Addr × Obj)} (h : ∀ q ∈ d :: (FX ++ tl), P q) (hx : P x) : ∀ q ∈ d :: (FX ++ x :: tl), P q :=
  all_cons (h d (.head _)) (all_app (fun q hq => h q (.tail _ (List.mem_append_left _ hq))) (all_cons hx fun q hq => h q (.tail _ (List.mem_append_right _ hq))))
theorem len_map {α β : Type} {f : α → β} {l : List α} {r : List β} (h : l.map f = r) : l.length = r.length := by rw [← h, List.length_map]
theorem mem_mono3 {a b c q : Addr × Obj} {l r : List (Addr × Obj)} (h : ∀ q ∈ l, q ∈ r) (hq : q ∈ a :: b :: c :: l) : q ∈ a :: b :: c :: r := by
  simp only [List.mem_cons] at hq ⊢
  rcases hq with e | e | e | e
  · exact .inl e
  · exact .inr (.inl e)
  · exact .inr (.inr (.inl e))
  · exact .inr (.inr (.inr (h q e)))
theorem eq_intsB {prog : Program} {w : World} {A : Around} {s : Shared} {E : Value → Shared → Prop} {a b : Addr} {vs us : List Value} {ns ms : List Int} {bb : Bool} {Q : Value → Shared → Prop} (hl : s.heap.IsList a vs.toArray) (hi : IntsAre vs ns) (hl' : s.heap.IsList b us.toArray) (hi' : IntsAre us ms) (hu : A.units + 64 < cLine)
    (hb : decide (ns = ms) = bb) (h : Q (.bool bb) s) : wpAny (model prog w) A (compareOp .Eq (.ref a) (.ref b)) Q E s := eq_intsK hl hi hl' hi' hu (hb ▸ h)
theorem call_lenN {prog : Program} {w : World} {A : Around} {s : Shared} {E : Value → Shared → Prop} {l : Addr} {items : List Value} {n : Nat} {k : Int} {Q : Value → Shared → Prop} (hl : s.heap.IsList l items.toArray) (hn : items.length = n) (hk : (n : Int) = k) (hfit : (n : Int) < 2 ^ 63)
    (h : Q (.int k (s.toks + 1)) { s with toks := s.toks + 1 + 1 }) : wpAny (model prog w) A (call (.builtin "len") [.ref l]) Q E s := by
  subst hn hk
  refine call_len_list hl (by rw [List.size_toArray]; exact hfit) ?_
  rw [List.size_toArray]; exact h
end Mine
end
section
open PySem PySem.W PySem.Calls PyProof.Rows PyProof.Rows.LCg
namespace Mine
set_option maxRecDepth 100000
set_option maxHeartbeats 8000000
noncomputable def wayNext (way : List Nat) (n : Nat) : List (List Nat) := ((List.range n).filter fun mk => mk != way.getLastD 0).map fun mk => way ++ [mk]
noncomputable def waysStep (kss : List (List Nat)) : List (List Nat) := kss.flatMap fun way => wayNext way 4
noncomputable def waysTo : Nat → List (List Nat)
  | 0 => [[0]]
  | i + 1 => waysStep (waysTo i)
theorem wayNext_length {way : List Nat} {n : Nat} : (wayNext way n).length ≤ n := by
  unfold wayNext
  rw [List.length_map]
  exact Nat.le_trans (List.length_filter_le _ _) (by rw [List.length_range]; exact Nat.le_refl _)
theorem waysStep_length : ∀ {kss : List (List Nat)}, (waysStep kss).length ≤ 4 * kss.length
  | [] => Nat.le_refl _
  | way :: kss => by
    have ih := waysStep_length (kss := kss)
    have h1 := wayNext_length (way := way) (n := 4)
    unfold waysStep at ih ⊢
    rw [List.flatMap_cons, List.length_append, List.length_cons]; omega
theorem waysStep_snoc {kss : List (List Nat)} {j : Nat} {way : List Nat} (h : kss[j]? = some way) : waysStep (kss.take (j + 1)) = waysStep (kss.take j) ++ wayNext way 4 := by
  unfold waysStep
  rw [List.take_add_one, h, List.flatMap_append]
  simp
theorem wayNext_yes {way : List Nat} {n : Nat} (h : n ≠ way.getLastD 0) : wayNext way (n + 1) = wayNext way n ++ [way ++ [n]] := by
  unfold wayNext
  rw [List.range_succ, List.filter_append, List.map_append, List.filter_cons, if_pos (by simpa using h)]
  rfl
theorem wayNext_no {way : List Nat} {n : Nat} (h : n = way.getLastD 0) : wayNext way (n + 1) = wayNext way n := by
  unfold wayNext
  rw [List.range_succ, List.filter_append, List.map_append, List.filter_cons, if_neg (by simpa using h)]
  simp
theorem ways_ok {i : Nat} (hi : i < 5) : ((waysTo i).all fun way => way.length == i + 1 && way.all fun mk => decide (mk < 4)) = true ∧ (waysTo i).length ≤ 81 := by
  rcases (show i = 0 ∨ i = 1 ∨ i = 2 ∨ i = 3 ∨ i = 4 by omega) with rfl | rfl | rfl | rfl | rfl <;> decide +kernel
theorem way_ok {i : Nat} (hi : i < 5) {way : List Nat} (h : way ∈ waysTo i) : way.length = i + 1 ∧ ∀ mk ∈ way, mk < 4 := by
  have := List.all_eq_true.mp (ways_ok hi).1 way h
  simp only [Bool.and_eq_true, beq_iff_eq, List.all_eq_true, decide_eq_true_eq] at this
  exact this
theorem last_at {ks : List Nat} {xs : List Value} (h : xs.map nt = nums ks) (hl : 0 < ks.length) : ∃ u, xs[ks.length - 1]? = some (.int (ks.getLastD 0 : Nat) u) := by
  obtain ⟨u, hu⟩ := num_at h (j := ks.length - 1) (by omega)
  refine ⟨u, ?_⟩
  rw [hu, List.getD_eq_getElem?_getD, List.getLastD_eq_getLast?, List.getLast?_eq_getElem?]
theorem way_row {way : List Nat} {xs : List Value} {mk : Nat} {t : Tok} (h : xs.map nt = nums way) : (xs ++ [Value.int (0 + (mk : Int)) t]).map nt = nums (way ++ [mk]) := by
  rw [List.map_append, h, Int.zero_add]
  unfold nums
  rw [List.map_append]
  rfl
noncomputable def okM (cs : List (Nat × Nat)) (marks : List Nat) : Bool := (cs ++ [(4, 5)]).all fun x => marks.getD x.1 0 != marks.getD x.2 0
noncomputable def rowM (marks : List Nat) : List Nat := (List.range 5).map fun k => (marks.getD k 0 ^^^ marks.getD (k + 1) 0) - 1
noncomputable def offP (row : List Nat) (q p : Nat) : Bool := (row.getD q 0 + 3 - row.getD p 0) % 3 != 1
noncomputable def backsQ (row : List Nat) (q n : Nat) : Nat := ((List.range n).filter (offP row q)).length
noncomputable def backsTo (row : List Nat) : Nat → Nat
  | 0 => 0
  | j + 1 => backsTo row j + backsQ row j j
noncomputable def backsR (row : List Nat) : Nat := backsTo row 5
noncomputable def signR (row : List Nat) : Int := 1 - 2 * ((backsR row % 2 : Nat) : Int)
noncomputable def marksOf (c : Nat) (way : List Nat) : List Nat := way ++ [c + 1]
noncomputable def dueRows (cs : List (Nat × Nat)) (c : Nat) (ways : List (List Nat)) : List (List Nat) := ((ways.map (marksOf c)).filter (okM cs)).map rowM
noncomputable def letter (k : Nat) : Nat := if k = 0 then 114 else if k = 1 then 103 else 98
noncomputable def wordOf (row : List Nat) : Str := ⟨(row.map letter).toArray⟩
noncomputable def RowsTab (get : Addr → Obj → Prop) (light : Str) (kvs : List (Str × Value)) (rows : List (List Nat)) : Prop :=
  kvs.map (·.1) = rows.map wordOf ∧ ∀ (j : Nat) (e : Str × Value) (row : List Nat), kvs[j]? = some e → rows[j]? = some row → ∃ (a : Addr) (t1 t2 t3 t4 : Tok), e.2 = Value.ref a ∧ get a (tupO #[.int (signR row) t1, .int (signR row) t2, .str light t3, .str light t4])
theorem RowsTab.nil {get : Addr → Obj → Prop} {light : Str} : RowsTab get light [] [] := ⟨rfl, fun _ _ _ h => by cases h⟩
theorem RowsTab.mono {get get' : Addr → Obj → Prop} {light : Str} {kvs : List (Str × Value)} {rows : List (List Nat)} (h : RowsTab get light kvs rows) (hg : ∀ a o, get a o → get' a o) : RowsTab get' light kvs rows :=
  ⟨h.1, fun j e row h1 h2 => let ⟨a, t1, t2, t3, t4, e1, e2⟩ := h.2 j e row h1 h2; ⟨a, t1, t2, t3, t4, e1, hg _ _ e2⟩⟩
theorem Stop.intro {P : Prop} (h : P) : Stop P := h
noncomputable def badTo (marks : List Nat) (cs : List (Nat × Nat)) (j : Nat) : List (Nat × Nat) := (cs.take j).filter fun x => marks.getD x.1 0 == marks.getD x.2 0
theorem badTo_yes {marks : List Nat} {cs : List (Nat × Nat)} {j x y : Nat} (h : cs[j]? = some (x, y)) (e : marks.getD x 0 = marks.getD y 0) : (badTo marks cs (j + 1)).length = (badTo marks cs j).length + 1 := by
  unfold badTo
  rw [List.take_add_one, h, List.filter_append, List.length_append]
  simp only [Option.toList_some, List.filter_cons]
  rw [if_pos (by simpa using e)]; rfl
theorem badTo_no {marks : List Nat} {cs : List (Nat × Nat)} {j x y : Nat} (h : cs[j]? = some (x, y)) (e : marks.getD x 0 ≠ marks.getD y 0) : (badTo marks cs (j + 1)).length = (badTo marks cs j).length := by
  unfold badTo
  rw [List.take_add_one, h, List.filter_append, List.length_append]
  simp only [Option.toList_some, List.filter_cons]
  rw [if_neg (by simpa using e)]; rfl
theorem badTo_le {marks : List Nat} {cs : List (Nat × Nat)} {j : Nat} : (badTo marks cs j).length ≤ cs.length := by
  unfold badTo
  exact Nat.le_trans (List.length_filter_le _ _) (by rw [List.length_take]; omega)
noncomputable def ones (n : Nat) : List Value := List.replicate n (.int 1 0)
theorem ones_ints : ∀ {ys : List Value} {n : Nat}, ys.map nt = ones n → IntsAre ys (List.replicate n 1)
  | [], 0, _ => .nil
  | [], _ + 1, h => by simp [ones, List.replicate_succ] at h
  | _ :: _, 0, h => by simp [ones] at h
  | y :: ys, n + 1, h => by
    simp only [ones, List.replicate_succ, List.map_cons, List.cons.injEq] at h
    obtain ⟨t, rfl⟩ := nt_int h.1
    rw [List.replicate_succ]
    exact .cons 1 t (ones_ints (n := n) h.2)
theorem ones_snoc {ys : List Value} {n : Nat} {t : Tok} (h : ys.map nt = ones n) : (ys ++ [Value.int 1 t]).map nt = ones (n + 1) := by
  rw [List.map_append, h]
  unfold ones
  rw [List.replicate_succ']
  rfl
theorem tup_of_or {h₀ h : Heap} {a TP : Addr} {o : Obj} {va vb : Value} (hg : h₀.get? a = some (tupO #[va, vb]) ∨ (a, tupO #[va, vb]) = (TP, o)) (hk : ∀ o, h₀.get? a = some o → h.get? a = some o) (hT : h.get? TP = some o) : h.IsTuple a #[va, vb] := by
  rcases hg with hg | hg
  · exact ⟨_, hk _ hg, rfl, _, rfl⟩
  · injection hg with e1 e2
    subst e1 e2
    exact ⟨_, hT, rfl, _, rfl⟩
theorem ok_of {marks : List Nat} {cs : List (Nat × Nat)} {n : Nat} (hn : (cs ++ [(4, 5)]).length ≤ n) (h : (badTo marks (cs ++ [(4, 5)]) n).length = 0) : okM cs marks = true := by
  unfold badTo at h
  rw [List.take_of_length_le hn, List.length_eq_zero_iff, List.filter_eq_nil_iff] at h
  unfold okM
  rw [List.all_eq_true]
  intro x hx
  have := h x hx
  simpa using this
theorem not_ok_of {marks : List Nat} {cs : List (Nat × Nat)} {n : Nat} (hn : (cs ++ [(4, 5)]).length ≤ n) (h : ¬ (badTo marks (cs ++ [(4, 5)]) n).length = 0) : okM cs marks = false := by
  cases e : okM cs marks with
  | false => rfl
  | true =>
    exfalso
    apply h
    unfold badTo
    rw [List.take_of_length_le hn, List.length_eq_zero_iff, List.filter_eq_nil_iff]
    intro x hx
    unfold okM at e
    have := List.all_eq_true.mp e x hx
    simpa using this
theorem due_snoc {cs : List (Nat × Nat)} {c i : Nat} {ways : List (List Nat)} {way : List Nat} (h : ways[i]? = some way) : dueRows cs c (ways.take (i + 1)) = dueRows cs c (ways.take i) ++ if okM cs (marksOf c way) = true then [rowM (marksOf c way)] else [] := by
  unfold dueRows
  rw [List.take_add_one, h, List.map_append, List.filter_append, List.map_append]
  simp only [Option.toList_some, List.map_cons, List.map_nil, List.filter_cons, List.filter_nil]
  split <;> rfl
theorem ways_adj : ((waysTo 4).all fun way => (List.range 4).all fun k => way.getD k 0 != way.getD (k + 1) 0) = true := by decide +kernel
theorem marks_at {c : Nat} {way : List Nat} (hl : way.length = 5) {k : Nat} : (marksOf c way).getD k 0 = if k < 5 then way.getD k 0 else if k = 5 then c + 1 else 0 := by
  unfold marksOf
  rw [List.getD_eq_getElem?_getD, List.getElem?_append, hl]
  split
  · rw [List.getD_eq_getElem?_getD]
  · split
    · next h => subst h; rfl
    · next h1 h2 =>
      have : k - 5 = (k - 6) + 1 := by omega
      rw [this]; rfl
theorem marks_adj {cs : List (Nat × Nat)} {c : Nat} {way : List Nat} (hm : way ∈ waysTo 4) (hl : way.length = 5) (hok : okM cs (marksOf c way) = true) {k : Nat} (hk : k < 5) : (marksOf c way).getD k 0 ≠ (marksOf c way).getD (k + 1) 0 := by
  rcases (show k < 4 ∨ k = 4 by omega) with h | rfl
  · rw [marks_at hl, marks_at hl, if_pos (by omega), if_pos (by omega)]
    have z := List.all_eq_true.mp (List.all_eq_true.mp ways_adj way hm) k (List.mem_range.mpr h)
    simpa using z
  · have z := List.all_eq_true.mp hok (4, 5) (List.mem_append_right _ (List.mem_singleton.mpr rfl))
    simpa using z
theorem marks_lt {c : Nat} {way : List Nat} (hc : Wheel c) (hl : way.length = 5) (hm : ∀ mk ∈ way, mk < 4) (k : Nat) : (marksOf c way).getD k 0 < 4 := by
  rw [marks_at hl]
  split
  · exact hm _ (getD_mem (by omega))
  · split
    · unfold Wheel at hc; omega
    · omega
theorem row_le {marks : List Nat} (h : ∀ k, marks.getD k 0 < 4) (k : Nat) : (rowM marks).getD k 0 ≤ 2 := by
  unfold rowM
  rw [List.getD_eq_getElem?_getD, List.getElem?_map]
  cases e : (List.range 5)[k]? with
  | none => simp
  | some j =>
    simp only [Option.map_some, Option.getD_some]
    have := Nat.xor_lt_two_pow (n := 2) (h j) (h (j + 1))
    omega
theorem xor4 : ∀ a, a < 4 → ∀ b, b < 4 → Builtin.bitXor ((a : Nat) : Int) ((b : Nat) : Int) = ((a ^^^ b : Nat) : Int) ∧ (a ≠ b → a ^^^ b ≠ 0) := by decide +kernel
theorem row_at {marks : List Nat} {q : Nat} (hq : q < 5) (hm : ∀ k, marks.getD k 0 < 4) (h : marks.getD q 0 ≠ marks.getD (q + 1) 0) : some (Value.int (((marks.getD q 0 ^^^ marks.getD (q + 1) 0 : Nat) : Int) - 1) 0) = (nums (rowM marks))[q]? := by
  unfold nums rowM
  rw [List.map_map, List.getElem?_map, List.getElem?_range hq]
  have h1 := (xor4 _ (hm q) _ (hm (q + 1))).2 h
  simp only [Option.map_some, Function.comp]
  congr 2
  omega
noncomputable def lastDiff (marks : List Nat) : Bool := marks.getD 4 0 != marks.getD 5 0
noncomputable def allWords (c : Nat) : List Str := (((waysTo 4).map (marksOf c)).filter lastDiff).map fun m => wordOf (rowM m)
theorem allWords_nodup {c : Nat} (hc : Wheel c) : (allWords c).Nodup := by
  rcases hc with rfl | rfl | rfl <;> decide +kernel
theorem due_sub {cs : List (Nat × Nat)} {c i : Nat} : ((dueRows cs c ((waysTo 4).take i)).map wordOf).Sublist (allWords c) := by
  unfold dueRows allWords
  rw [List.map_map]
  have e : (((waysTo 4).take i).map (marksOf c)).filter (okM cs) = ((((waysTo 4).take i).map (marksOf c)).filter lastDiff).filter (okM cs) := by
    rw [List.filter_filter]
    refine List.filter_congr fun m _ => ?_
    cases h : okM cs m with
    | false => simp
    | true =>
      have z := List.all_eq_true.mp h (4, 5) (List.mem_append_right _ (List.mem_singleton.mpr rfl))
      simp only [Bool.true_and]
      exact z.symm
  rw [e]
  refine List.Sublist.map _ (List.Sublist.trans List.filter_sublist ?_)
  exact List.Sublist.filter _ (List.Sublist.map _ (List.take_sublist _ _))
theorem fresh_word {get : Addr → Obj → Prop} {light : Str} {body : List (Str × Value)} {cs : List (Nat × Nat)} {c i : Nat} {way : List Nat} (hc : Wheel c) (h : RowsTab get light body (dueRows cs c ((waysTo 4).take i))) (hw : (waysTo 4)[i]? = some way) (hok : okM cs (marksOf c way) = true) :
    valueAt body (wordOf (rowM (marksOf c way))) = none := by
  have hn := List.Nodup.sublist (due_sub (cs := cs) (c := c) (i := i + 1)) (allWords_nodup hc)
  rw [due_snoc hw, if_pos hok, List.map_append] at hn
  have hd := (List.nodup_append.mp hn).2.2
  unfold valueAt
  rw [Option.map_eq_none_iff, List.find?_eq_none]
  intro e he hk
  have hk' : e.1 = wordOf (rowM (marksOf c way)) := by simpa using hk
  have hm : e.1 ∈ (dueRows cs c ((waysTo 4).take i)).map wordOf := by rw [← h.1]; exact List.mem_map_of_mem he
  exact hd _ hm _ (by simp) hk'
theorem RowsTab.snoc {get : Addr → Obj → Prop} {light : Str} {kvs : List (Str × Value)} {rows : List (List Nat)} {row : List Nat} {a : Addr} {t1 t2 t3 t4 : Tok} (h : RowsTab get light kvs rows) (hg : get a (tupO #[.int (signR row) t1, .int (signR row) t2, .str light t3, .str light t4])) :
    RowsTab get light (kvs ++ [(wordOf row, Value.ref a)]) (rows ++ [row]) := by
  have hl : kvs.length = rows.length := by simpa using congrArg List.length h.1
  refine ⟨by rw [List.map_append, List.map_append, h.1]; rfl, fun j e r h1 h2 => ?_⟩
  rw [List.getElem?_append] at h1 h2
  rw [← hl] at h2
  split at h1
  · next hlt => rw [if_pos hlt] at h2; exact h.2 j e r h1 h2
  · next hlt =>
    rw [if_neg hlt] at h2
    have : j - kvs.length = 0 := by
      cases e : j - kvs.length with
      | zero => rfl
      | succ k => rw [e] at h1; simp at h1
    rw [this] at h1 h2
    cases h1; cases h2
    exact ⟨a, t1, t2, t3, t4, rfl, hg⟩
theorem backsQ_yes {row : List Nat} {q n : Nat} (h : offP row q n = true) : backsQ row q (n + 1) = backsQ row q n + 1 := by
  unfold backsQ
  rw [List.range_succ, List.filter_append, List.length_append, List.filter_cons, if_pos h]; rfl
theorem backsQ_no {row : List Nat} {q n : Nat} (h : offP row q n = false) : backsQ row q (n + 1) = backsQ row q n := by
  unfold backsQ
  rw [List.range_succ, List.filter_append, List.length_append, List.filter_cons, if_neg (by rw [h]; decide)]; rfl
theorem backsQ_le {row : List Nat} {q n : Nat} : backsQ row q n ≤ n := by
  unfold backsQ
  exact Nat.le_trans (List.length_filter_le _ _) (by rw [List.length_range]; exact Nat.le_refl _)
theorem backsTo_le {row : List Nat} : ∀ {j : Nat}, j ≤ 5 → backsTo row j ≤ 5 * j
  | 0, _ => Nat.le_refl _
  | j + 1, h => by
    have ih := backsTo_le (row := row) (j := j) (by omega)
    have l := backsQ_le (row := row) (q := j) (n := j)
    unfold backsTo
    omega
theorem off_yes {row : List Nat} {q p : Nat} (hq : row.getD q 0 ≤ 2) (hp : row.getD p 0 ≤ 2) (h : (((row.getD q 0 : Nat) : Int) - ((row.getD p 0 : Nat) : Int)).fmod 3 ≠ 1) : offP row q p = true := by
  rw [Int.fmod_eq_emod_of_nonneg _ (by decide)] at h
  unfold offP
  simp only [bne_iff_ne, ne_eq]
  omega
theorem off_no {row : List Nat} {q p : Nat} (hq : row.getD q 0 ≤ 2) (hp : row.getD p 0 ≤ 2) (h : (((row.getD q 0 : Nat) : Int) - ((row.getD p 0 : Nat) : Int)).fmod 3 = 1) : offP row q p = false := by
  rw [Int.fmod_eq_emod_of_nonneg _ (by decide)] at h
  unfold offP
  simp only [bne_eq_false_iff_eq]
  omega
theorem cut6 {cs : List (Nat × Nat)} {j x y : Nat} (hcs : ∀ x ∈ cs, x.1 < 6 ∧ x.2 < 6) (h : (cs ++ [(4, 5)])[j]? = some (x, y)) : x < 6 ∧ y < 6 := by
  rcases List.mem_append.mp (List.mem_of_getElem? h) with h | h
  · exact hcs _ h
  · have := List.mem_singleton.mp h; cases this; exact ⟨by decide, by decide⟩
noncomputable abbrev dmL (CU : Addr) (c : Nat) (tc : Tok) (light : Str) (tl0 : Tok) (ways : Value) (k due count total way back sign : Option Value) : List (Str × Option Value) :=
  [(Str.ofString "k", k), (Str.ofString "due", due), (Str.ofString "count", count), (Str.ofString "total", total), (Str.ofString "way", way), (Str.ofString "back", back), (Str.ofString "sign", sign), (Str.ofString "ways", some ways), (Str.ofString "light", some (.str light tl0)), (Str.ofString "corner", some (.int (c : Nat) tc)), (Str.ofString "cuts", some (.ref CU))]
noncomputable abbrev DM (CU : Addr) (c : Nat) (tc : Tok) (light : Str) (tl0 : Tok) (ways : Value) (k due count total way back sign : Option Value) : Str → Option Value := mapOf (dmL CU c tc light tl0 ways k due count total way back sign)
theorem tests_one {M : Model} {A : Around} {E : Value → Shared → Prop} {s : Shared} {cnd : PySem.Expr} {env : Env} {Q : Bool → Shared → Prop} (h : wpAny M A (isTrue cnd env (eval cnd env)) Q E s) : wpAny M A (tests [cnd] env) Q E s := by
  simp only [tests, List.forIn_cons, List.forIn_nil, if_true]
  exact wpAny_bind (wpAny_bind (wpAny_mono h (fun b s' hq => wpAny_pure (wpAny_pure hq)) fun _ _ e => e))
end Mine
end
section
open PySem PySem.W PySem.Calls PyProof.Rows PyProof.Rows.LCg
namespace Mine
set_option maxRecDepth 100000
set_option maxHeartbeats 8000000
theorem allLt_mem {d : Addr} : ∀ {tl : List (Addr × Obj)}, AllLt d tl → ∀ q ∈ tl, q.1 < d
  | [], _, _, h => by cases h
  | x :: xs, hl, q, h => by
    rcases List.mem_cons.mp h with rfl | h
    · exact hl.1
    · exact allLt_mem hl.2 q h
theorem rows_apart {h₀ h : Heap} {L c1 c2 WA : Addr} {oW o1 o2 : Obj} {v1 v2 : Option Value} {tl : List (Addr × Obj)} {vs : List Value} {kss : List (List Nat)} (hr : RowsIn (fun a o => (a, o) ∈ tl) vs kss)
    (N : News h₀ L h ((WA, oW) :: (c1, o1) :: (c2, o2) :: tl)) (d1 : o1.data = .cell v1) (d2 : o2.data = .cell v2) :
    ∃ tlf : List (Addr × Obj), RowsIn (fun a o => (a, o) ∈ tlf) vs kss ∧ (∀ q ∈ tlf, q.1 ≠ c1 ∧ q.1 ≠ c2) ∧ ∀ q ∈ tlf, q ∈ tl := by
  refine ⟨tl.filter fun q : Addr × Obj => decide (q.1 ≠ c1 ∧ q.1 ≠ c2), ⟨hr.1, fun j v ks h1 h2 => ?_⟩, fun q hq => ?_, fun q hq => (List.mem_filter.mp hq).1⟩
  · obtain ⟨a, xs, n, e1, e2, e3⟩ := hr.2 j v ks h1 h2
    refine ⟨a, xs, n, e1, List.mem_filter.mpr ⟨e2, decide_eq_true ⟨?_, ?_⟩⟩, e3⟩
    · exact ne_of_objs (N _ (List.mem_cons_of_mem _ (List.mem_cons_of_mem _ (List.mem_cons_of_mem _ e2)))).1 (N (c1, o1) (List.mem_cons_of_mem _ List.mem_cons_self)).1 fun e => by have z := (congrArg Obj.data e).trans d1; cases z
    · exact ne_of_objs (N _ (List.mem_cons_of_mem _ (List.mem_cons_of_mem _ (List.mem_cons_of_mem _ e2)))).1 (N (c2, o2) (List.mem_cons_of_mem _ (List.mem_cons_of_mem _ List.mem_cons_self))).1 fun e => by have z := (congrArg Obj.data e).trans d2; cases z
  · exact of_decide_eq_true (List.mem_filter.mp hq).2
inductive DJ (w : World) (CU : Addr) (c : Nat) (tc : Tok) (light : Str) (tl0 : Tok) (cs : List (Nat × Nat)) (WA d0 L' : Addr) (vk : Option Value) (oW : Obj) (tl : List (Addr × Obj)) (i : Nat) : (Str → Option Value) → List (Addr × Obj) → Prop
  | mk (oA oB oD : Obj) (vA vB : Option Value) (body : List (Str × Value)) (tl2 : List (Addr × Obj)) (cnt tot : Int) (t1 t2 : Tok) (vw vb vsg : Option Value) (dA : oA.data = .cell vA) (dB : oB.data = .cell vB) (hoD : oD.IsDictOf (strKind PySem.Challenge.rw_zn0014_01.prog w) body)
    (hbody : RowsTab (fun a o => (a, o) ∈ tl2) light body (dueRows cs c ((waysTo 4).take i))) (hsub : ∀ q ∈ tl, q ∈ tl2) (hne : ∀ q ∈ tl2, q.1 ≠ d0 ∧ q.1 ≠ L' + 1 + 1 ∧ q.1 ≠ L' + 1) (hcnt : cnt = ((dueRows cs c ((waysTo 4).take i)).length : Int)) (htot : tot = ((dueRows cs c ((waysTo 4).take i)).map signR).sum) :
    DJ w CU c tc light tl0 cs WA d0 L' vk oW tl i (DM CU c tc light tl0 (.ref WA) vk (some (.ref d0)) (some (.int cnt t1)) (some (.int tot t2)) vw vb vsg) ((d0, oD) :: (WA, oW) :: (L' + 1 + 1, oA) :: (L' + 1, oB) :: tl2)
theorem join_word {w : World} {A : Around} {Q E : Value → Shared → Prop} {s : Shared} {D : Addr} {row : List Nat} {ws : List Value} {t : Tok} (hl : row.length = 5) (hw : ws.map nt = row.map fun k => Value.str ⟨#[letter k]⟩ 0)
   (hD : s.heap.get? D = some (lst ws)) (h : Q (.str (wordOf row) s.toks) { s with toks := s.toks + 1 }) : wpAny (model PySem.Challenge.rw_zn0014_01.prog w) A (call (.builtin "str.join") [.str (Str.ofString "") t, .ref D]) Q E s := by
  match row, hl with
  | [a, b, c, d, e], _ =>
    obtain ⟨x1, x2, x3, x4, x5, rfl, h1, h2, h3, h4, h5⟩ := nts5 hw
    obtain ⟨t1, rfl⟩ := nt_str h1
    obtain ⟨t2, rfl⟩ := nt_str h2
    obtain ⟨t3, rfl⟩ := nt_str h3
    obtain ⟨t4, rfl⟩ := nt_str h4
    obtain ⟨t5, rfl⟩ := nt_str h5
    exact join5 hD h
theorem due_le {cs : List (Nat × Nat)} {c i : Nat} : (dueRows cs c ((waysTo 4).take i)).length ≤ 81 := by
  have h := (ways_ok (i := 4) (by decide)).2
  unfold dueRows
  rw [List.length_map]
  refine Nat.le_trans (List.length_filter_le _ _) ?_
  rw [List.length_map, List.length_take]
  omega
noncomputable def WJ (CU : Addr) (c : Nat) (tc : Tok) (light : Str) (tl0 : Tok) (L' : Addr) (oA oB : Obj) (i : Nat) (m₁ : Str → Option Value) (news₁ : List (Addr × Obj)) : Prop :=
  ∃ (WA : Addr) (vs : List Value) (n : Nat) (tl : List (Addr × Obj)) (vk : Option Value), news₁ = (WA, listOf vs.toArray n) :: (L' + 1 + 1, oA) :: (L' + 1, oB) :: tl ∧ RowsIn (fun a o => (a, o) ∈ tl) vs (waysTo i) ∧ m₁ = DM CU c tc light tl0 (.ref WA) vk none none none none none none
noncomputable def W1J (FX tl : List (Addr × Obj)) (I : Addr) (i j : Nat) (_ : Str → Option Value) (ys : List Value) (news : List (Addr × Obj)) : Prop :=
  ∃ tl2, news = FX ++ tl2 ∧ RowsIn (fun a o => (a, o) ∈ tl2) ys (waysStep ((waysTo i).take j)) ∧ (∀ q ∈ tl, q ∈ tl2) ∧ ∀ q ∈ tl2, q.1 ≠ I
noncomputable def W2J (FX tl : List (Addr × Obj)) (I I1 : Addr) (oI1 : Obj) (i j : Nat) (way : List Nat) (ra : Addr) (q : Nat) (m₃ : Str → Option Value) (ys' : List Value) (news' : List (Addr × Obj)) : Prop :=
  q ≤ 4 ∧ m₃ (Str.ofString "way") = some (.ref ra) ∧ ∃ tl3, news' = (I1, oI1) :: (FX ++ tl3) ∧ RowsIn (fun a o => (a, o) ∈ tl3) ys' (waysStep ((waysTo i).take j) ++ wayNext way q) ∧ (∀ q ∈ tl, q ∈ tl3) ∧ ∀ q ∈ tl3, q.1 ≠ I ∧ q.1 ≠ I1
theorem W2J.len {FX tl : List (Addr × Obj)} {I I1 : Addr} {oI1 : Obj} {i j : Nat} {way : List Nat} {ra : Addr} {q : Nat} {m₃ : Str → Option Value} {ys' : List Value} {news' : List (Addr × Obj)} (h : W2J FX tl I I1 oI1 i j way ra q m₃ ys' news') (hW : (waysTo i).length ≤ 81) : ys'.length ≤ sizeLine := by
  obtain ⟨hq4, _, tl3, _, h3, _, _⟩ := h
  have l1 := h3.1
  have l2 := wayNext_length (way := way) (n := q)
  have l3 := waysStep_length (kss := (waysTo i).take j)
  rw [List.length_append] at l1
  rw [List.length_take] at l3
  rw [sizeLine_eq]; omega
noncomputable def CJ (NW : List (Addr × Obj)) (marks : List Nat) (cs2 : List (Nat × Nat)) (j : Nat) (_ : Str → Option Value) (ys : List Value) (nw : List (Addr × Obj)) : Prop := nw = NW ∧ ys.map nt = ones (badTo marks cs2 j).length
theorem CJ.len {NW : List (Addr × Obj)} {marks : List Nat} {cs : List (Nat × Nat)} {j : Nat} {m : Str → Option Value} {ys : List Value} {nw : List (Addr × Obj)} (h : CJ NW marks (cs ++ [(4, 5)]) j m ys nw) (hcl : cs.length ≤ 8) : ys.length ≤ sizeLine := by
  have l1 := congrArg List.length h.2
  have l2 := badTo_le (marks := marks) (cs := cs ++ [(4, 5)]) (j := j)
  rw [List.length_map, ones, List.length_replicate] at l1
  rw [List.length_append] at l2
  rw [l1, sizeLine_eq]
  simp only [List.length_cons, List.length_nil] at l2
  omega
noncomputable def B1J (NW : List (Addr × Obj)) (row : List Nat) (j : Nat) (_ : Str → Option Value) (ys : List Value) (nw : List (Addr × Obj)) : Prop := nw = NW ∧ ys.map nt = ones (backsTo row j)
noncomputable def B2J (NW : List (Addr × Obj)) (row : List Nat) (q : Nat) (tq : Tok) (p : Nat) (m₃ : Str → Option Value) (ys' : List Value) (nw' : List (Addr × Obj)) : Prop := p ≤ 5 ∧ m₃ (Str.ofString "q") = some (.int (0 + (q : Int)) tq) ∧ nw' = NW ∧ ys'.map nt = ones (backsTo row q + backsQ row q p)
theorem B2J.len {NW : List (Addr × Obj)} {row : List Nat} {q : Nat} {tq : Tok} {p : Nat} {m₃ : Str → Option Value} {ys' : List Value} {nw' : List (Addr × Obj)} (h : B2J NW row q tq p m₃ ys' nw') (hq5 : q < 5) : ys'.length ≤ sizeLine := by
  obtain ⟨hp5, _, _, h⟩ := h
  have l1 := congrArg List.length h
  have l2 := backsQ_le (row := row) (q := q) (n := p)
  have l3 := backsTo_le (row := row) (j := q) (by omega)
  rw [List.length_map, ones, List.length_replicate] at l1
  rw [l1, sizeLine_eq]; omega
noncomputable def DuePost (w : World) (c : Nat) (cs : List (Nat × Nat)) (light : Str) (r : Value) (tl : List (Addr × Obj)) : Prop :=
  ∃ (R : Addr) (oR : Obj) (body : List (Str × Value)) (a : Addr) (t1 t2 t3 : Tok), r = .ref R ∧ (R, oR) ∈ tl ∧ (R == sysModules) = false ∧ oR.IsDictOf (strKind PySem.Challenge.rw_zn0014_01.prog w) (stored body light (.ref a)) ∧
     RowsTab (fun a o => (a, o) ∈ tl) light body (dueRows cs c (waysTo 4)) ∧ (a, tupO #[.int ((dueRows cs c (waysTo 4)).length : Int) t1, .int ((dueRows cs c (waysTo 4)).map signR).sum t2, .int ((dueRows cs c (waysTo 4)).map signR).sum t3]) ∈ tl
theorem len_nums {xs : List Value} {ks : List Nat} (h : xs.map nt = nums ks) : xs.length = ks.length := by simpa [nums] using congrArg List.length h
theorem body_le {get : Addr → Obj → Prop} {light : Str} {body : List (Str × Value)} {cs : List (Nat × Nat)} {c i : Nat} (h : RowsTab get light body (dueRows cs c ((waysTo 4).take i))) : body.length ≤ 81 := by
  have e1 := congrArg List.length h.1
  have e2 := due_le (cs := cs) (c := c) (i := i)
  rw [List.length_map, List.length_map] at e1
  omega
section
local macro_rules | `(tactic| walk_at "exec Assign cons ListComp") => `(tactic| refine Stop.of ?_)
local macro_rules | `(tactic| walk_at "subscriptTail Name Name ref int") => `(tactic| refine Stop.of ?_)
local macro_rules | `(tactic| walk_at "subscriptTail Name BinOp ref int") => `(tactic| refine Stop.of ?_)
local macro_rules | `(tactic| walk_at "compareOp Eq ref ref") => `(tactic| refine Stop.of ?_)
local macro_rules | `(tactic| walk_at "eval ListComp") => `(tactic| refine Stop.of ?_)
local macro_rules | `(tactic| walk_at "call builtin:str.join") => `(tactic| refine Stop.of ?_)
local macro_rules | `(tactic| walk_at "setItem ref str") => `(tactic| refine Stop.of ?_)
local macro_rules | `(tactic| walk_at "exec For") => `(tactic| refine Stop.of ?_)
local macro_rules | `(tactic| walk_at "exec For Name Name cons nil") => `(tactic| refine Stop.of ?_)
local macro_rules | `(tactic| walk_at "exec For Name Call cons nil") => `(tactic| refine Stop.of ?_)
theorem c_due {w : World} {c : Nat} {tc tl0 : Tok} {CU : Addr} {cs : List (Nat × Nat)} {light : Str} (hc : Wheel c) (hcs : ∀ x ∈ cs, x.1 < 6 ∧ x.2 < 6) (hcl : cs.length ≤ 8) :
   Con w 860 8600 156 [.ref CU, .int (c : Nat) tc, .str light tl0] (fun h => ∃ (cvs : List Value) (cn : Nat), h.get? CU = some (listOf cvs.toArray cn) ∧ PairsIn (fun a o => h.get? a = some o) cvs cs) (DuePost w c cs light) := by
  w_top off
  intro gd outer base s tp lo mean mg mb Q E B X T hpre hret
  obtain ⟨cvs, cn, hCU, hcv⟩ := hpre
  revert X
  k_fill
  intro X
  refine' enterC (binds := [(Str.ofString "cuts", .ref CU), (Str.ofString "corner", .int (c : Nat) tc), (Str.ofString "light", .str light tl0)]) B X T hret ?k6 ?k7 ?k8 ?k9 ?kL ?kD ?_ ?c2 ?c3 ?c4
  case k6 => k_dflt k_is
  case k7 => k_dflt k_is
  case k8 => exact (by decide : (860:Nat) < recursionLimit)
  case k9 => exact BindsTo.of_eq rfl
  case kL => exact rfl
  case kD => decide +kernel
  case c2 => exact rfl
  case c3 => exact rfl
  case c4 => exact rfl
  intro L' h' tk0 cells F N Y
  clear hret
  refine hide fun R hR => ?_
  refine hideP fun G hG => ?_
  obtain ⟨oA, oB, rfl, dA, dB⟩ := CellsAre.two Y
  refine hG ?_
  clear hG G
  replace dA : oA.data = .cell none := dA
  replace dB : oB.data = .cell none := dB
  replace F : Fr s.heap L' h' (fun y => if y = Str.ofString "light" then some (.str light tl0) else if y = Str.ofString "corner" then some (.int (c : Nat) tc) else if y = Str.ofString "cuts" then some (.ref CU) else none) := F
  clear Y
  k_steps
  unfold Stop
  rename_i W0 hA l1A W1 hB l1B hC F1 N1
  refine for_ (by intro x; rfl) ?_
  k_steps
  rename_i hr hF3 hN3 hk3
  refine it_range (n := 4) rfl (by k_asm) (by k_asm) hr (small_one (by decide) (by decide) (by decide) (by decide)) (by rfl) fun I g St src F2 N2 off => ?_
  replace F2 : Fr s.heap L' g (DM CU c tc light tl0 (.ref W1) none none none none none none none) := fr_nones [Str.ofString "k", Str.ofString "due", Str.ofString "count", Str.ofString "total", Str.ofString "way", Str.ofString "back", Str.ofString "sign"] (l := [(Str.ofString "ways", some (.ref W1)), (Str.ofString "light", some (.str light tl0)), (Str.ofString "corner", some (.int (c : Nat) tc)), (Str.ofString "cuts", some (.ref CU))]) F2 rfl rfl
  refine for_src (WJ CU c tc light tl0 L' oA oB) (news := [(W1, listOf #[Value.ref W0] 0), (L' + 1 + 1, oA), (L' + 1, oB), (W0, listOf #[Value.int 0 tk0] 0)])
    (by rfl) (by rfl) (by rfl) src F2 (News_pick N2 4 [0, 2, 3, 1]) (all_pick off 4 [0, 2, 3, 1]) trivial ?nf ?j0 ?step ?done
  case nf => simpa using src.ne
  case j0 => exact ⟨W1, [.ref W0], 0, [(W0, listOf #[Value.int 0 tk0] 0)], none, rfl, RowsIn.snoc (kss := []) (xs := [.int 0 tk0]) RowsIn.nil List.mem_cons_self rfl, rfl⟩
  case step =>
    intro i v m₁ news₁ oI h tk hi hv hJ F3 N3 off3 hS3
    refine hide fun R2 hR2 => ?_
    obtain ⟨ti, rfl⟩ := hv
    obtain ⟨WA, vs, n, tl, vk, rfl, hvs, rfl⟩ := hJ
    k_steps
    unfold Stop
    k_dflt (refine lcA2 (L := L') (m := fun y => if y = Str.ofString "k" then some (Value.int (0 + (i : Int)) ti) else DM CU c tc light tl0 (.ref WA) vk none none none none none none y) (h₀ := s.heap) (by rfl) (by rfl) (by rfl) (by decide) (by rfl) (by decide) (by rfl) (by rfl) (by rfl) (by intro _; rfl) (by intro _ _; rfl) ?_)
    k_steps
    have hi4 : i < 4 := hi
    have hvl : vs.length = (waysTo i).length := hvs.1
    have hW := (ways_ok (show i < 5 by omega)).2
    obtain ⟨FX, hFX, mWA⟩ : ∃ FX, FX = [(I, oI), (WA, listOf vs.toArray n), (L' + 1 + 1, oA), (L' + 1, oB)] ∧ (WA, listOf vs.toArray n) ∈ FX := ⟨_, rfl, .tail _ (.head _)⟩
    have N3' : News s.heap L' h (FX ++ tl) := hFX ▸ N3
    refine it_list rfl F3 N3' (.inr ⟨_, List.mem_append_left _ mWA, rfl, _, rfl⟩) fun I1 g1 St1 src1 F4 N4 off4 => ?_
    refine ⟨I1, _, _, _, _, _, _, W1J FX tl I i, rfl, rfl, src1, F4, N4, off4, .inr ⟨_, List.mem_append_left _ mWA, rfl, _, rfl⟩, ⟨tl, rfl, RowsIn.nil, fun q hq => hq, fun q hq => off3 q (.tail _ (.tail _ (.tail _ hq)))⟩, ?_⟩
    refine ⟨?_, ?_⟩
    · intro C D j v m₂ ys news oI1 oC h5 tk5 hj hjv hJ hC F5 N5 off5 ne5 hS5
      refine hideP fun G hG => ?_
      obtain ⟨way, hway⟩ : ∃ way, (waysTo i)[j]? = some way := by
        have : j < (waysTo i).length := by rw [← hvl]; simpa using hj
        exact ⟨_, List.getElem?_eq_getElem this⟩
      obtain ⟨tl2, hnews, hys, hsub, hneI⟩ := hJ
      obtain ⟨ra, xs, nx, hra1, hra, hxs⟩ := hvs.2 j v way (by simpa using hjv) hway
      obtain ⟨hwl, hwm⟩ := way_ok (show i < 5 by omega) (List.mem_of_getElem? hway)
      have hmw : (if Str.ofString "way" = Str.ofString "way" then some v else m₂ (Str.ofString "way")) = some (.ref ra) := by rw [hra1]; rfl
      refine hG ?_
      clear hG G hra1 hjv
      refine tests_go ?_
      k_steps
      rename_i hr5 hF5 hN5 hk5
      refine it_range (n := 4) rfl (by k_asm) (by k_asm) hr5 (small_one (by decide) (by decide) (by decide) (by decide)) (by rfl) fun I2 g6 St6 src2 F6 N6 off6 => ?_
      refine' lc_in (W2J FX tl I I1 oI1 i j way ra) src2 (by rfl) (by rfl) ⟨List.not_mem_nil, List.not_mem_nil⟩ (fun q m₃ ys' news' h => h.len hW) F6 hC N6 off6 off5 ne5 trivial ⟨by decide, hmw, tl2, congrArg _ hnews, ?ysI, hsub, fun q hq => ⟨hneI q hq, (off5.mem q (hnews ▸ List.mem_append_right _ hq)).1⟩⟩ ?stepI ?doneI
      case ysI => simpa [wayNext] using hys
      case doneI =>
        intro m₃ ys' news' oC' h7 tk7 hJ' hC7 F7 N7 off7 ne7 _
        refine hideP fun G hG => ?_
        obtain ⟨_, _, tl3, hn3, hys', hsub', hne3⟩ := hJ'
        refine hG ?_
        clear hG G
        subst hn3
        exact ⟨rfl, Nxt_done F7 N7 hC7 off7 (all_app (fun q hq => (off5.mem q (hnews ▸ List.mem_append_left _ hq)).1) fun q hq => (hne3 q hq).2) (.inr ⟨_, List.mem_append_left _ mWA, rfl, _, rfl⟩) ⟨tl3, rfl, by rw [waysStep_snoc hway]; exact hys', hsub', fun q hq => (hne3 q hq).1⟩⟩
      case stepI =>
        intro mk v m₃ ys' news' oI2 oC' h7 tk7 hmk hv7 hJ' hC' F7 N7 off7 ne7 _
        refine hideP fun G hG => ?_
        obtain ⟨tm, hv7⟩ := hv7
        obtain ⟨hq4, hm3, tl3, hn3, hys', hsub', hne3⟩ := hJ'
        obtain ⟨u, hC7, hu1, hu2⟩ : ∃ u : Str → Option Value, NsObj oC' u ∧ u (Str.ofString "mark") = some (.int (0 + (mk : Int)) tm) ∧ u (Str.ofString "way") = some (.ref ra) := ⟨_, hC', by rw [hv7]; rfl, hm3⟩
        have mra : (ra, listOf xs.toArray nx) ∈ news' := hn3 ▸ .tail _ (List.mem_append_right _ (hsub' _ hra))
        have gra := (N7 (ra, listOf xs.toArray nx) (.tail _ (.tail _ (.tail _ mra)))).1
        have hmk4 : mk < 4 := hmk
        have hxl : xs.length = way.length := len_nums hxs
        obtain ⟨uz, hz⟩ := last_at hxs (show 0 < way.length by omega)
        refine hG ?_
        clear hG G hv7 hC'
        generalize hlast : way.getLastD 0 = z at hz
        refine tests_one ?_
        k_steps
        refine tail_any (PySem.IsL.isList gra).typeIs slot_list_getitem.lookup (wpAny_getItem_list_neg (PySem.IsL.isList gra) (by decide) (by rw [List.size_toArray]; omega) (by decide) (at_last (by omega) hxl hz) ?_) (by with_unfolding_all rfl)
        k_steps
        · rename_i hne LM hM F8 N8 l8
          have gra8 := (N8 (ra, listOf xs.toArray nx) (.tail _ (.tail _ (.tail _ (.tail _ mra))))).1
          refine add_lists (s := ⟨_, _, _, _, _⟩) F8 N8 (vs := xs) (ws := [Value.int (0 + (mk : Int)) tm]) (PySem.IsL.isList gra8) (PySem.IsL.isList (N8 _ List.mem_cons_self).1) ?_ (hsz := by rw [sizeLine_eq]; show _ + 1 ≤ _; omega)
          intro h9 F9 N9
          dsimp only at F9 N9 ⊢
          have fresh9 : ∀ q ∈ (I2, oI2) :: (C, oC') :: (D, lst ys') :: news', q.1 ≠ hM.objs.size := fun q hq => Nat.ne_of_lt (Heap.lt_size (N8 q (List.mem_cons_of_mem _ hq)).1)
          generalize hM.objs.size = SD at N9 fresh9 ⊢
          subst hn3
          have N9' : News s.heap L' h9 ((I2, oI2) :: (C, oC') :: (D, lst ys') :: (I1, oI1) :: (FX ++ (SD, listOf (xs ++ [Value.int (0 + (mk : Int)) tm]).toArray 0) :: tl3)) := fun q hq => News_pick N9 2 [0] q (mem_ins hq)
          refine Nxt.intro F9 N9' _ hC7 (fun q hq => hq) (Off3.of (off_ins off7.mem ⟨fun e => fresh9 (I2, oI2) (.head _) e.symm, fun e => fresh9 (C, oC') (.tail _ (.head _)) e.symm, fun e => fresh9 (D, lst ys') (.tail _ (.tail _ (.head _))) e.symm⟩)) trivial ⟨rfl, by omega, hu2, (SD, listOf (xs ++ [Value.int (0 + (mk : Int)) tm]).toArray 0) :: tl3, rfl, ?_, fun q hq => List.mem_cons_of_mem _ (hsub' q hq), all_cons ⟨fun e => fresh9 (I, oI) (.tail _ (.tail _ (.tail _ (.tail _ (List.mem_append_left _ (hFX ▸ .head _)))))) e.symm, fun e => fresh9 (I1, oI1) (.tail _ (.tail _ (.tail _ (.head _)))) e.symm⟩ hne3⟩
          rw [wayNext_yes (by rw [hlast]; omega), ← List.append_assoc]
          exact RowsIn.snoc (hys'.mono fun a o hm => List.mem_cons_of_mem _ hm) List.mem_cons_self (way_row hxs)
        · rename_i heq
          refine Nxt.intro F7 N7 _ hC7 (fun q hq => hq) off7 trivial ⟨by omega, hu2, tl3, hn3, ?_, hsub', hne3⟩
          rw [wayNext_no (by rw [hlast]; omega)]
          exact hys'
    · intro m₂ ys news hJ hS6 D h6 tk6 F6 N6 off6
      refine hideP fun G hG => ?_
      obtain ⟨tl2, hnews, hys, hsub, hneI⟩ := hJ
      refine hG ?_
      clear hG G
      subst hnews
      subst hFX
      have hall : (waysTo i).take vs.toArray.size = waysTo i := by rw [List.size_toArray, hvl, List.take_length]
      rw [hall] at hys
      k_steps
      replace F6 : Fr s.heap L' h6 (DM CU c tc light tl0 (.ref D) (some (.int (0 + (i : Int)) ti)) none none none none none none) := fr_sets [(Str.ofString "ways", _), (Str.ofString "k", _)] F6 rfl rfl
      refine hR2 _ _ ?_
      dsimp only [FTurn]
      exact FNxt.intro F6 N6 ((D, lst ys) :: (L' + 1 + 1, oA) :: (L' + 1, oB) :: tl2) (fun _ hq => mem_pick (n := 5) (is := [1, 0, 3, 4]) hq) (all_cons (fun e => off6 (I, oI) (.head _) e.symm) (all_cons (off3 (L' + 1 + 1, oA) (.tail _ (.head _))) (all_cons (off3 (L' + 1, oB) (.tail _ (.tail _ (.head _)))) hneI))) trivial ⟨D, ys, ys.length, tl2, some (.int (0 + (i : Int)) ti), rfl, hys, rfl⟩
  case done =>
    intro m₁ news₁ h tk hJ F3 N3 hS3
    refine hideP fun G hG => ?_
    obtain ⟨WA, vs, n, tlX, vk, hn1, hvs, hm1⟩ := hJ
    replace N3 : News s.heap L' h ((WA, listOf vs.toArray n) :: (L' + 1 + 1, oA) :: (L' + 1, oB) :: tlX) := hn1 ▸ N3
    replace F3 : Fr s.heap L' h (DM CU c tc light tl0 (.ref WA) vk none none none none none none) := hm1 ▸ F3
    obtain ⟨tl, hvs, hnef, hsubf⟩ := rows_apart hvs N3 dA dB
    refine hG ?_
    clear hG G hn1 hm1
    replace N3 : News s.heap L' h ((WA, listOf vs.toArray n) :: (L' + 1 + 1, oA) :: (L' + 1, oB) :: tl) := fun q hq => N3 q (mem_mono3 hsubf hq)
    clear hsubf
    k_steps
    unfold Stop
    refine for_ (by intro x; rfl) ?_
    k_steps
    rename_i d0 hd0 o0 hsys hs0 fs0 hi0 fi0 l1d hA2 D0 hB2 l1D hC2 hD2 hE2 F4 N4
    have hvl : vs.length = (waysTo 4).length := hvs.1
    refine it_list rfl F4 N4 (.inr ⟨_, by k_mem, rfl, _, rfl⟩) fun I1 g1 St1 src1 F5 N5 off5 => ?_
    obtain ⟨u1, u2, F5⟩ : ∃ u1 u2, Fr s.heap L' g1 (DM CU c tc light tl0 (.ref WA) vk (some (.ref d0)) (some (.int 0 u1)) (some (.int 0 u2)) none none none) := ⟨_, _, fr_sets [(Str.ofString "total", _), (Str.ofString "count", _), (Str.ofString "due", _)] F5 rfl rfl⟩
    refine for_src (news := (d0, o0) :: (WA, listOf vs.toArray n) :: (L' + 1 + 1, oA) :: (L' + 1, oB) :: tl) (fun i m₁ news₁ => DJ w CU c tc light tl0 cs WA d0 L' vk (listOf vs.toArray n) tl i m₁ news₁)
      (by rfl) (by rfl) (by rfl) src1 F5 ?N5' ?off' (.inr ⟨_, by k_mem, rfl, _, rfl⟩) ?nf2 ?j2 ?step2 ?done2
    case N5' => exact fun q hq => N5 q (List.mem_cons_of_mem _ hq)
    case off' => exact fun q hq => off5 q (List.mem_cons_of_mem _ hq)
    case nf2 => simpa using ⟨by simpa using src1.ne, fun e : L' = WA => (N5 (WA, listOf vs.toArray n) (by simp)).2.1 e.symm⟩
    case j2 => exact ⟨oA, oB, o0, none, none, [], tl, 0, 0, u1, u2, none, none, none, dA, dB, hs0, RowsTab.nil, fun _ h => h, (fun q hq => ⟨Nat.ne_of_lt (allLt_mem l1d.2.2.2 q hq), hnef q hq⟩), rfl, rfl⟩
    case done2 =>
      intro m₂ news₂ h6 tk6 hJ F6 N6 hS6
      refine hideP fun G hG => ?_
      obtain ⟨oA, oB, oD, vA, vB, body, tl2, cnt, tot, t1, t2, vw, vb, vsg, dA, dB, hoD, hbody, hsub, hne, hcnt, htot⟩ := hJ
      refine hG ?_
      clear hG G
      rw [show (waysTo 4).take vs.toArray.size = waysTo 4 by rw [List.size_toArray, hvl, List.take_length]] at hbody hcnt htot
      k_steps
      unfold Stop
      rename_i F6' N6' h7 F7 N7 hk7 nm7
      dsimp only at F7 N7 ⊢
      have lt7 : ∀ q ∈ (d0, oD) :: (WA, listOf vs.toArray n) :: (L' + 1 + 1, oA) :: (L' + 1, oB) :: tl2, q.1 ≠ h6.objs.size := fun q hq => Nat.ne_of_lt (Heap.lt_size (N6' q hq).1)
      clear F6' N6' hk7
      generalize h6.objs.size = TQ at N7 lt7 ⊢
      have g7 := N7 (d0, oD) (.tail _ (.head _))
      have hbl : body.length ≤ 81 := body_le (i := (waysTo 4).length) (by rw [List.take_length]; exact hbody)
      refine wpAny_setItem_pairs (strKind_is _ _ _ _) (Heap.dictOf_iff.mpr ⟨oD, g7.1, hoD⟩) (fun h26 d26 s26 => ?_) (by rw [sizeLine_eq]; omega)
      obtain ⟨oD', hoD', hd26⟩ := Heap.dictOf_iff.mp d26
      have N26 := News.setIn (own := [(TQ, tupO #[.int cnt t1, .int tot t2, .int tot t2])]) (rest := (WA, listOf vs.toArray n) :: (L' + 1 + 1, oA) :: (L' + 1, oB) :: tl2) N7 (all_cons (fun e => lt7 (d0, oD) (.head _) e.symm) all_nil) ?o2 s26 hoD'
      case o2 => exact all_cons (Nat.ne_of_lt l1d.1) (all_cons (Nat.ne_of_lt l1d.2.1) (all_cons (Nat.ne_of_lt l1d.2.2.1) fun q hq => (hne q hq).1))
      have F26 := F7.change s26 g7.2.1 g7.2.2
      clear N7 F7 d26
      replace N26 : News s.heap L' h26 ((TQ, tupO #[.int cnt t1, .int tot t2, .int tot t2]) :: (d0, oD') :: (WA, listOf vs.toArray n) :: (L' + 1 + 1, oA) :: (L' + 1, oB) :: tl2) := N26
      k_steps
      subst hcnt htot
      refine hR _ _ ?_
      refine Back.intro F26 N26 _ (fun q hq => hq) ⟨d0, oD', body, TQ, t1, t2, t2, rfl, .tail _ (.head _), hsys, hd26, hbody.mono fun a o h => .tail _ (.tail _ (.tail _ (.tail _ (.tail _ h)))), .head _⟩
    case step2 =>
      intro i v m₁ news₁ oI1 h6 tk6 hi hiv hJ F6 N6 off6 hS6
      refine hide fun R3 hR3 => ?_
      refine hideP fun G hG => ?_
      obtain ⟨oA, oB, oD, vA, vB, body, tl2, cnt, tot, t1, t2, vw, vb, vsg, dA, dB, hoD, hbody, hsub, hne, hcnt, htot⟩ := hJ
      obtain ⟨way, hway⟩ : ∃ way, (waysTo 4)[i]? = some way := by
        have : i < (waysTo 4).length := by rw [← hvl]; simpa using hi
        exact ⟨_, List.getElem?_eq_getElem this⟩
      obtain ⟨ra, xs, nx, rfl, hra, hxs⟩ := hvs.2 i v way (by simpa using hiv) hway
      obtain ⟨hwl, hwm⟩ := way_ok (show 4 < 5 by omega) (List.mem_of_getElem? hway)
      have hra2 := hsub _ hra
      refine hG ?_
      clear hG G
      k_steps
      rename_i LM hM F7 N7 l7
      have gra7 := (N7 (ra, listOf xs.toArray nx) (.tail _ (.tail _ (.tail _ (.tail _ (.tail _ (.tail _ hra2))))))).1
      have hxl : xs.length = way.length := len_nums hxs
      refine add_lists (s := ⟨_, _, _, _, _⟩) F7 N7 (vs := xs) (ws := [Value.int ((c : Int) + 1) (tk6 + 1)]) (PySem.IsL.isList gra7) (PySem.IsL.isList (N7 _ List.mem_cons_self).1) ?_ (hsz := by rw [sizeLine_eq]; show _ + 1 ≤ _; omega)
      intro h8 F8 N8
      dsimp only at F8 N8 ⊢
      have fresh8 : ∀ q ∈ (I1, oI1) :: (d0, oD) :: (WA, listOf vs.toArray n) :: (L' + 1 + 1, oA) :: (L' + 1, oB) :: tl2, q.1 < hM.objs.size := fun q hq => Heap.lt_size (N7 q (List.mem_cons_of_mem _ hq)).1
      generalize hM.objs.size = MA at N8 fresh8 ⊢
      have x1 : @Ne Nat WA (L' + 1) := ne_of_objs (N7 (WA, listOf vs.toArray n) (.tail _ (.tail _ (.tail _ (.head _))))).1 (N7 (L' + 1, oB) (.tail _ (.tail _ (.tail _ (.tail _ (.tail _ (.head _))))))).1 fun e => by have z := (congrArg Obj.data e).trans dB; cases z
      have x2 : @Ne Nat WA (L' + 1 + 1) := ne_of_objs (N7 (WA, listOf vs.toArray n) (.tail _ (.tail _ (.tail _ (.head _))))).1 (N7 (L' + 1 + 1, oA) (.tail _ (.tail _ (.tail _ (.tail _ (.head _)))))).1 fun e => by have z := (congrArg Obj.data e).trans dA; cases z
      have N8' : News s.heap L' h8 ([(MA, listOf (xs ++ [Value.int ((c : Int) + 1) (tk6 + 1)]).toArray 0), (I1, oI1), (d0, oD), (WA, listOf vs.toArray n), (L' + 1 + 1, oA)] ++ (L' + 1, oB) :: tl2) := News_pick N8 2 [0]
      k_steps
      refine store_cell F8 N8' ?c1 ?c2 dB (by rfl) (by rfl) (by rfl) ?_
      case c1 => exact all_cons (Nat.ne_of_gt (fresh8 (L' + 1, oB) (by k_mem))) (all_cons (fun e => off6 (L' + 1, oB) (by k_mem) e.symm) (all_cons (Nat.ne_of_gt l1d.2.2.1) (all_cons x1 (all_cons (Nat.succ_ne_self _) all_nil))))
      case c2 => exact fun q hq => (hne q hq).2.2
      intro h9 oB9 F9 N9 dB9
      replace N9 : News s.heap L' h9 ((MA, listOf (xs ++ [Value.int ((c : Int) + 1) (tk6 + 1)]).toArray 0) :: (I1, oI1) :: (d0, oD) :: (WA, listOf vs.toArray n) :: (L' + 1 + 1, oA) :: (L' + 1, oB9) :: tl2) := N9
      clear N8 N8' F8
      have hmo : (xs ++ [Value.int ((c : Int) + 1) (tk6 + 1)]).map nt = nums (marksOf c way) := by
        rw [List.map_append, hxs]; unfold marksOf nums; rw [List.map_append]; rfl
      have hml : (marksOf c way).length = 6 := by unfold marksOf; rw [List.length_append, hwl]; rfl
      generalize hmos : xs ++ [Value.int ((c : Int) + 1) (tk6 + 1)] = mo at hmo N9
      k_steps
      unfold Stop
      k_dflt (refine lcPE (L := L') (m := fun y => if y = Str.ofString "way" then some (Value.ref ra) else DM CU c tc light tl0 (.ref WA) vk (some (.ref d0)) (some (.int cnt t1)) (some (.int tot t2)) vw vb vsg y) (h₀ := s.heap) (by rfl) (by decide) (by rfl) (by decide) (by rfl) (by rfl) (by intro _; rfl) ?_)
      k_steps
      rename_i LT hT F10 N10 l10
      dsimp only at F10 N10 l10 ⊢
      generalize h9.objs.size = TP at N10 l10 ⊢
      have gCU := F10.keep _ _ hCU
      have hcvl : cvs.length = cs.length := hcv.1
      refine add_lists (s := ⟨_, _, _, _, _⟩) F10 N10 (vs := cvs) (ws := [Value.ref TP]) (PySem.IsL.isList gCU) (PySem.IsL.isList (N10 _ List.mem_cons_self).1) ?_ (hsz := by rw [sizeLine_eq]; show _ + 1 ≤ _; omega)
      intro h11 F11 N11
      dsimp only at F11 N11 ⊢
      generalize hT.objs.size = SL at N11 ⊢
      have hcA : PairsIn (fun a o => s.heap.get? a = some o ∨ (a, o) = (TP, tupO #[.int ((4 : Nat) : Int) (tk6 + 1 + 1), .int ((5 : Nat) : Int) (tk6 + 1 + 1 + 1)])) (cvs ++ [Value.ref TP]) (cs ++ [(4, 5)]) := PairsIn.snoc (hcv.mono fun a o h => .inl h) (.inr rfl)
      obtain ⟨NX, hNX, mSL, mTP, mMA⟩ : ∃ NX, NX = (SL, listOf (cvs ++ [Value.ref TP]).toArray 0) :: (LT, listOf #[Value.ref TP] 0) :: (TP, tupO #[.int ((4 : Nat) : Int) (tk6 + 1 + 1), .int ((5 : Nat) : Int) (tk6 + 1 + 1 + 1)]) :: (MA, listOf mo.toArray 0) :: (I1, oI1) :: (d0, oD) :: (WA, listOf vs.toArray n) :: (L' + 1 + 1, oA) :: tl2 ∧ (SL, listOf (cvs ++ [Value.ref TP]).toArray 0) ∈ NX ∧ (TP, tupO #[.int ((4 : Nat) : Int) (tk6 + 1 + 1), .int ((5 : Nat) : Int) (tk6 + 1 + 1 + 1)]) ∈ NX ∧ (MA, listOf mo.toArray 0) ∈ NX := ⟨_, rfl, .head _, .tail _ (.tail _ (.head _)), .tail _ (.tail _ (.tail _ (.head _)))⟩
      replace N11 : News s.heap L' h11 ((L' + 1, oB9) :: NX) := hNX ▸ News_pick N11 9 [8, 0, 1, 2, 3, 4, 5, 6, 7]
      refine ⟨SL, (cvs ++ [Value.ref TP]).toArray, fun j va vb => ∃ x y t u, (cs ++ [(4, 5)])[j]? = some (x, y) ∧ va = .int (x : Nat) t ∧ vb = .int (y : Nat) u,
        fun nw => (SL, listOf (cvs ++ [Value.ref TP]).toArray 0) ∈ nw ∧ (TP, tupO #[.int ((4 : Nat) : Int) (tk6 + 1 + 1), .int ((5 : Nat) : Int) (tk6 + 1 + 1 + 1)]) ∈ nw, _,
        CJ ((L' + 1, oB9) :: NX) (marksOf c way) (cs ++ [(4, 5)]), rfl, rfl, F11, N11, ⟨.tail _ mSL, .tail _ mTP⟩, ⟨rfl, rfl⟩, ?SA, ?TT, fun j m₂ ys nw h => h.len hcl, ?go⟩
      case SA => exact fun nw h => .inr ⟨_, h.1, rfl, _, rfl⟩
      case TT =>
        intro j v h nw hv hS hk N
        have hj : j < (cs ++ [(4, 5)]).length := by rw [← hcA.1]; exact (List.getElem?_eq_some_iff.mp (by simpa using hv)).1
        obtain ⟨a, t, u, rfl, hg⟩ := hcA.2 j v _ (by simpa using hv) (List.getElem?_eq_getElem hj)
        exact ⟨a, _, _, rfl, tup_of_or hg (fun o => hk _ o) (N _ hS.2).1, _, _, t, u, List.getElem?_eq_getElem hj, rfl, rfl⟩
      case go =>
        refine ⟨?_, ?_⟩
        · intro I C D j va vb m₂ ys nw oI oC h12 tk12 hj hP hJ hC F12 N12 off12 ne12 hS12
          refine hideP fun G hG => ?_
          obtain ⟨x, y, ta, tb, hxy, hva, hvb⟩ := hP
          obtain ⟨u, hC12, hu1, hu2⟩ : ∃ u : Str → Option Value, NsObj oC u ∧ u (Str.ofString "a") = some (.int (x : Nat) ta) ∧ u (Str.ofString "b") = some (.int (y : Nat) tb) := ⟨_, hC, congrArg some hva, congrArg some hvb⟩
          have hxy6 : x < 6 ∧ y < 6 := cut6 hcs hxy
          obtain ⟨ux, hx⟩ := num_at hmo (show x < (marksOf c way).length by omega)
          obtain ⟨uy, hy⟩ := num_at hmo (show y < (marksOf c way).length by omega)
          have gMA := (N12 (MA, listOf mo.toArray 0) (.tail _ (.tail _ (.tail _ (hJ.1 ▸ .tail _ mMA))))).1
          replace N12 : News s.heap L' h12 ((I, oI) :: (C, oC) :: (D, lst ys) :: (L' + 1, oB9) :: NX) := hJ.1 ▸ N12
          have byes := badTo_yes (marks := marksOf c way) hxy
          have bno := badTo_no (marks := marksOf c way) hxy
          refine hG ?_
          clear hG G hva hvb hC
          generalize hkx : (marksOf c way).getD x 0 = kx at hx byes bno
          generalize hky : (marksOf c way).getD y 0 = ky at hy byes bno
          refine tests_one ?_
          k_steps
          unfold Stop
          refine tail_any (PySem.IsL.isList gMA).typeIs slot_list_getitem.lookup (wpAny_getItem_list (PySem.IsL.isList gMA) (by omega) (by omega) (at_nat hx) ?_) (by with_unfolding_all rfl)
          k_steps
          unfold Stop
          refine tail_any (PySem.IsL.isList gMA).typeIs slot_list_getitem.lookup (wpAny_getItem_list (PySem.IsL.isList gMA) (by omega) (by omega) (at_nat hy) ?_) (by with_unfolding_all rfl)
          k_steps
          · rename_i heq
            refine Nxt.intro F12 N12 _ hC12 (fun q hq => hq) (hJ.1 ▸ off12) (hJ.1 ▸ hS12) ⟨rfl, rfl, ?_⟩
            rw [byes (by omega)]
            exact ones_snoc hJ.2
          · rename_i hne'
            refine Nxt.intro F12 N12 _ hC12 (fun q hq => hq) (hJ.1 ▸ off12) (hJ.1 ▸ hS12) ⟨rfl, ?_⟩
            rw [bno (by omega)]
            exact hJ.2
        · intro m₂ ys nw hJ hS13 D h13 tk13 F13 N13 off13
          refine hideP fun G hG => ?_
          obtain ⟨nb, hnb, hyi⟩ : ∃ nb, Stop (nb = (badTo (marksOf c way) (cs ++ [(4, 5)]) (cvs ++ [Value.ref TP]).toArray.size).length) ∧ IntsAre ys (List.replicate nb 1) := ⟨_, Stop.intro rfl, ones_ints hJ.2⟩
          replace N13 : News s.heap L' h13 ((D, lst ys) :: (L' + 1, oB9) :: (SL, listOf (cvs ++ [Value.ref TP]).toArray 0) :: (LT, listOf #[Value.ref TP] 0) :: (TP, tupO #[.int ((4 : Nat) : Int) (tk6 + 1 + 1), .int ((5 : Nat) : Int) (tk6 + 1 + 1 + 1)]) :: (MA, listOf mo.toArray 0) :: (I1, oI1) :: (d0, oD) :: (WA, listOf vs.toArray n) :: (L' + 1 + 1, oA) :: tl2) := hNX ▸ (show News s.heap L' h13 ((D, lst ys) :: (L' + 1, oB9) :: NX) from hJ.1 ▸ N13)
          replace N13 : News s.heap L' h13 ((D, lst ys) :: (MA, listOf mo.toArray 0) :: (I1, oI1) :: (d0, oD) :: (WA, listOf vs.toArray n) :: (L' + 1 + 1, oA) :: (L' + 1, oB9) :: tl2) := News_pick N13 10 [0, 5, 6, 7, 8, 9, 1]
          refine hG ?_
          clear hG G hJ hS13 off13
          k_steps
          unfold Stop
          rename_i EL hE F14 N14 l14
          refine eq_intsK (s := ⟨_, _, _, _, _⟩) (vs := ys) (us := []) (PySem.IsL.isList (N14 (D, lst ys) (by k_mem)).1) hyi (PySem.IsL.isList (N14 _ List.mem_cons_self).1) .nil (by exact (by decide +kernel : (8600 + 3 + 64 : Nat) < cLine)) ?_
          have hn8 : (cs ++ [(4, 5)]).length ≤ (cvs ++ [Value.ref TP]).toArray.size := by
            rw [List.size_toArray, List.length_append, List.length_append, hcvl]; exact Nat.le_refl _
          by_cases h0 : nb = 0
          · have hok : okM cs (marksOf c way) = true := ok_of hn8 (hnb.symm.trans h0)
            rw [show decide (List.replicate nb (1 : Int) = []) = true by rw [h0]; rfl]
            clear hnb
            k_steps
            unfold Stop
            refine wpAny_Assign_Name ?_ (by rfl)
            refine hide fun R5 hR5 => ?_
            obtain ⟨m5, hm5⟩ : ∃ m, m = (fun y => if y = Str.ofString "way" then some (Value.ref ra) else DM CU c tc light tl0 (.ref WA) vk (some (.ref d0)) (some (.int cnt t1)) (some (.int tot t2)) vw vb vsg y) := ⟨_, rfl⟩
            obtain ⟨NY, hNY, mMA2⟩ : ∃ NY, NY = (MA, listOf mo.toArray 0) :: (I1, oI1) :: (d0, oD) :: (WA, listOf vs.toArray n) :: (L' + 1 + 1, oA) :: tl2 ∧ (MA, listOf mo.toArray 0) ∈ NY := ⟨_, rfl, .head _⟩
            replace F14 := show Fr s.heap L' hE m5 from hm5 ▸ F14
            replace N14 := show News s.heap L' hE ((L' + 1, oB9) :: NY) from hNY ▸ News_pick N14 8 [7, 2, 3, 4, 5, 6]
            k_dflt (refine lcE (L := L') (m := m5) (h₀ := s.heap) (by rfl) (by decide) (by rfl) (by decide) (by rfl) (by intro _; rfl) ?_)
            k_steps
            rename_i hr15 hF15 hN15 hk15
            refine it_range (n := 5) rfl (by k_asm) (by k_asm) hr15 (small_one (by decide) (by decide) (by decide) (by decide)) (by rfl) fun I3 g15 St15 src3 F15 N15 off15 => lc_map (nums (rowM (marksOf c way))) (by rfl) (by decide) rfl src3 F15 N15 off15 trivial ?el3 ?fin3
            case el3 =>
              intro C D' q v ys' oI3 oC h16 tk16 hq hP hC F16 N16
              refine hideP fun G hG => ?_
              obtain ⟨tq, hv⟩ := hP
              obtain ⟨u, hC16, hu⟩ := hC
              replace hu := hu.trans (congrArg some hv)
              have hq5 : q < 5 := hq
              obtain ⟨ux, hx⟩ := num_at hmo (show q < (marksOf c way).length by omega)
              obtain ⟨uy, hy⟩ := num_at hmo (show q + 1 < (marksOf c way).length by omega)
              have hxor : some (Value.int ((((marksOf c way).getD q 0 ^^^ (marksOf c way).getD (q + 1) 0 : Nat) : Int) - 1) 0) = (nums (rowM (marksOf c way)))[q]? := row_at hq5 (marks_lt hc hwl hwm) (marks_adj (List.mem_of_getElem? hway) hwl hok hq5)
              have h4 := (xor4 _ (marks_lt hc hwl hwm q) _ (marks_lt hc hwl hwm (q + 1))).1
              generalize (marksOf c way).getD q 0 = kx at hx hxor h4
              generalize (marksOf c way).getD (q + 1) 0 = ky at hy hxor h4
              have gMA := (N16 (MA, listOf mo.toArray 0) (.tail _ (.tail _ (.tail _ (.tail _ mMA2))))).1
              refine hG ?_
              clear hG G hv
              k_steps
              unfold Stop
              refine tail_any (PySem.IsL.isList gMA).typeIs slot_list_getitem.lookup (wpAny_getItem_list (PySem.IsL.isList gMA) (by omega) (by omega) (at_nat0 hx) ?_) (by with_unfolding_all rfl)
              k_steps
              unfold Stop
              refine tail_any (PySem.IsL.isList gMA).typeIs slot_list_getitem.lookup (wpAny_getItem_list (PySem.IsL.isList gMA) (by omega) (by omega) (at_nat1 hy) ?_) (by with_unfolding_all rfl)
              k_steps
              refine MapEnd.intro F16 N16 (fun _ h => h) ?_
              rw [← hxor, ← h4]
              rfl
            case fin3 =>
              intro zs hzs RA h17 tk17 F17 N17 off17
              refine hR5 _ _ ?_
              clear hR5 R5
              have mOff : d0 ≠ RA := off17 (d0, oD) (.tail _ (hNY ▸ .tail _ (.tail _ (.head _))))
              have mOffA : L' + 1 + 1 ≠ RA := off17 (L' + 1 + 1, oA) (.tail _ (hNY ▸ .tail _ (.tail _ (.tail _ (.tail _ (.head _))))))
              replace F17 := show Fr s.heap L' h17 (fun y => if y = Str.ofString "way" then some (Value.ref ra) else DM CU c tc light tl0 (.ref WA) vk (some (.ref d0)) (some (.int cnt t1)) (some (.int tot t2)) vw vb vsg y) from hm5 ▸ F17
              have N17' : News s.heap L' h17 ([(RA, lst zs), (I1, oI1), (d0, oD), (WA, listOf vs.toArray n)] ++ (L' + 1 + 1, oA) :: (L' + 1, oB9) :: tl2) := News_pick (show News s.heap L' h17 ((RA, lst zs) :: (L' + 1, oB9) :: (MA, listOf mo.toArray 0) :: (I1, oI1) :: (d0, oD) :: (WA, listOf vs.toArray n) :: (L' + 1 + 1, oA) :: tl2) from hNY ▸ N17) 7 [0, 3, 4, 5, 6, 1]
              clear off17 N17 hm5 hNY mMA2
              k_steps
              refine store_cell F17 N17' ?c3 ?c4 dA (by rfl) (by rfl) (by rfl) ?_
              case c3 => exact all_cons mOffA.symm (all_cons (fun e => off6 (L' + 1 + 1, oA) (by k_mem) e.symm) (all_cons (Nat.ne_of_gt l1d.2.1) (all_cons x2 all_nil)))
              case c4 => exact all_cons (Nat.ne_of_lt (Nat.lt_succ_self _)) fun q hq => (hne q hq).2.1
              intro h18 oA18 F18 N18 dA18
              replace N18 : News s.heap L' h18 ((RA, lst zs) :: (I1, oI1) :: (d0, oD) :: (WA, listOf vs.toArray n) :: (L' + 1 + 1, oA18) :: (L' + 1, oB9) :: tl2) := N18
              clear N17' F17
              k_steps
              unfold Stop
              have hRl : (rowM (marksOf c way)).length = 5 := by unfold rowM; rw [List.length_map, List.length_range]
              have hR2 := row_le (marks := marksOf c way) (marks_lt hc hwl hwm)
              generalize hRow : rowM (marksOf c way) = row at hzs hRl hR2
              have hzl : zs.length = row.length := len_nums hzs
              refine hide fun R6 hR6 => ?_
              obtain ⟨m6, hm6⟩ : ∃ m, m = (fun y => if y = Str.ofString "way" then some (Value.ref ra) else DM CU c tc light tl0 (.ref WA) vk (some (.ref d0)) (some (.int cnt t1)) (some (.int tot t2)) vw vb vsg y) := ⟨_, rfl⟩
              obtain ⟨NY, hNY, mRA⟩ : ∃ NY, NY = (RA, lst zs) :: (I1, oI1) :: (d0, oD) :: (WA, listOf vs.toArray n) :: (L' + 1, oB9) :: tl2 ∧ (RA, lst zs) ∈ NY := ⟨_, rfl, .head _⟩
              replace F18 := show Fr s.heap L' h18 m6 from hm6 ▸ F18
              replace N18 := show News s.heap L' h18 ((L' + 1 + 1, oA18) :: NY) from hNY ▸ News_pick N18 6 [4, 0, 1, 2, 3, 5]
              k_dflt (refine lcA2 (L := L') (m := m6) (h₀ := s.heap) (by rfl) (by rfl) (by rfl) (by decide) (by rfl) (by decide) (by rfl) (by rfl) (by rfl) (by intro _; rfl) (by intro _ _; rfl) ?_)
              k_steps
              rename_i hr19 hF19 hN19 hk19
              refine it_range (n := 5) rfl (by k_asm) (by k_asm) hr19 (small_one (by decide) (by decide) (by decide) (by decide)) (by rfl) fun I4 g19 St19 src4 F19 N19 off19 => ?_
              refine ⟨I4, _, _, _, _, _, _, B1J ((L' + 1 + 1, oA18) :: NY) row, rfl, rfl, src4, F19, N19, off19, trivial, ⟨rfl, rfl⟩, ?_⟩
              refine ⟨?_, ?_⟩
              · intro C D' q v m₂ ys2 nw oI4 oC h20 tk20 hq hP hJ hC F20 N20 off20 ne20 _
                refine hideP fun G hG => ?_
                obtain ⟨tq, hv⟩ := hP
                have hq5 : q < 5 := hq
                obtain ⟨u, hC20, hu⟩ : ∃ u : Str → Option Value, NsObj oC u ∧ u (Str.ofString "q") = some (.int (0 + (q : Int)) tq) := ⟨_, hC, congrArg some hv⟩
                replace N20 : News s.heap L' h20 ((I4, oI4) :: (C, oC) :: (D', lst ys2) :: (L' + 1 + 1, oA18) :: NY) := hJ.1 ▸ N20
                replace off20 : Off3 I4 C D' ((L' + 1 + 1, oA18) :: NY) := hJ.1 ▸ off20
                refine hG ?_
                clear hG G hv hC
                refine tests_go ?_
                k_steps
                rename_i hr21 hF21 hN21 hk21
                have hsz21 : Builtin.Range.rangeSize 0 (0 + (q : Int)) 1 = ((q : Nat) : Int) := by
                  rw [rangeSize_one]; split <;> omega
                refine it_range (n := q) rfl (by k_asm) (by k_asm) hr21 (small_one (by decide) (by decide) (by omega) (by omega)) hsz21 fun I5 g21 St21 src5 F21 N21 off21 => ?_
                refine' lc_in (B2J ((I4, oI4) :: (L' + 1 + 1, oA18) :: NY) row q tq) src5 (by rfl) (by rfl) ⟨List.not_mem_nil, List.not_mem_nil⟩ (fun p m₃ ys' nw' h => h.len hq5) F21 hC20 N21 off21 off20 ne20 trivial ⟨by decide, hu, rfl, hJ.2⟩ ?step5 ?done5
                case done5 =>
                  intro m₃ ys' nw' oC' h22 tk22 hJ' hC22 F22 N22 off22 ne22 _
                  exact ⟨rfl, Nxt_done F22 (hJ'.2.2.1 ▸ N22) hC22 (hJ'.2.2.1 ▸ off22) (fun p hp => (off20.mem p hp).1) trivial ⟨rfl, hJ'.2.2.2⟩⟩
                case step5 =>
                  intro p v m₃ ys' nw' oI5 oC' h22 tk22 hp hP5 hJ' hC' F22 N22 off22 ne22 _
                  refine hideP fun G hG => ?_
                  obtain ⟨tp5, hv5⟩ := hP5
                  have hpq : p < q := hp
                  obtain ⟨u', hC22, hu1, hu2⟩ : ∃ u : Str → Option Value, NsObj oC' u ∧ u (Str.ofString "p") = some (.int (0 + (p : Int)) tp5) ∧ u (Str.ofString "q") = some (.int (0 + (q : Int)) tq) := ⟨_, hC', congrArg some hv5, hJ'.2.1⟩
                  obtain ⟨ux, hx⟩ := num_at hzs (show q < row.length by omega)
                  obtain ⟨uy, hy⟩ := num_at hzs (show p < row.length by omega)
                  replace N22 : News s.heap L' h22 ((I5, oI5) :: (C, oC') :: (D', lst ys') :: (I4, oI4) :: (L' + 1 + 1, oA18) :: NY) := hJ'.2.2.1 ▸ N22
                  replace off22 : Off3 I5 C D' ((I4, oI4) :: (L' + 1 + 1, oA18) :: NY) := hJ'.2.2.1 ▸ off22
                  have gRA := (N22 (RA, lst zs) (.tail _ (.tail _ (.tail _ (.tail _ (.tail _ mRA)))))).1
                  have oy := off_yes (q := q) (p := p) (hR2 q) (hR2 p)
                  have on := off_no (q := q) (p := p) (hR2 q) (hR2 p)
                  refine hG ?_
                  clear hG G hv5 hC'
                  generalize row.getD q 0 = kx at hx oy on
                  generalize row.getD p 0 = ky at hy oy on
                  refine tests_one ?_
                  k_steps
                  unfold Stop
                  refine tail_any (PySem.IsL.isList gRA).typeIs slot_list_getitem.lookup (wpAny_getItem_list (PySem.IsL.isList gRA) (by omega) (by omega) (at_nat0 hx) ?_) (by with_unfolding_all rfl)
                  k_steps
                  unfold Stop
                  refine tail_any (PySem.IsL.isList gRA).typeIs slot_list_getitem.lookup (wpAny_getItem_list (PySem.IsL.isList gRA) (by omega) (by omega) (at_nat0 hy) ?_) (by with_unfolding_all rfl)
                  k_steps
                  · rename_i hne'
                    refine Nxt.intro F22 N22 _ hC22 (fun x hx => hx) off22 trivial ⟨rfl, by omega, hu2, rfl, ?_⟩
                    rw [backsQ_yes (oy hne')]
                    exact ones_snoc hJ'.2.2.2
                  · rename_i heq
                    refine Nxt.intro F22 N22 _ hC22 (fun x hx => hx) off22 trivial ⟨by omega, hu2, rfl, ?_⟩
                    rw [backsQ_no (on heq)]
                    exact hJ'.2.2.2
              · intro m₂ ys2 nw hJ _ BA h20 tk20 F20 N20 off20
                refine hR6 _ _ ?_
                clear hR6 R6
                refine hideP fun G hG => ?_
                have dBA : d0 ≠ BA := off20 (d0, oD) (hJ.1 ▸ .tail _ (hNY ▸ .tail _ (.tail _ (.head _))))
                replace F20 := show Fr s.heap L' h20 (fun z => if z = Str.ofString "back" then some (.ref BA) else if z = Str.ofString "way" then some (Value.ref ra) else DM CU c tc light tl0 (.ref WA) vk (some (.ref d0)) (some (.int cnt t1)) (some (.int tot t2)) vw vb vsg z) from fr_in hm6 F20
                replace N20 : News s.heap L' h20 ((BA, lst ys2) :: (L' + 1 + 1, oA18) :: NY) := hJ.1 ▸ N20
                replace N20 : News s.heap L' h20 ((BA, lst ys2) :: (RA, lst zs) :: (I1, oI1) :: (d0, oD) :: (WA, listOf vs.toArray n) :: (L' + 1 + 1, oA18) :: (L' + 1, oB9) :: tl2) := News_pick (show News s.heap L' h20 ((BA, lst ys2) :: (L' + 1 + 1, oA18) :: (RA, lst zs) :: (I1, oI1) :: (d0, oD) :: (WA, listOf vs.toArray n) :: (L' + 1, oB9) :: tl2) from hNY ▸ N20) 7 [0, 2, 3, 4, 5, 1, 6]
                have hyl2 : ys2.length = backsTo row 5 := by
                  have := congrArg List.length hJ.2
                  rw [List.length_map, ones, List.length_replicate] at this
                  exact this
                obtain ⟨nb5, hnb5, hsg⟩ : ∃ nb5 : Int, ((backsTo row 5 : Nat) : Int) = nb5 ∧ (1 : Int) - 2 * nb5.fmod 2 = signR row := ⟨_, rfl, by
                  unfold signR backsR
                  rw [Int.fmod_eq_emod_of_nonneg _ (by decide)]; omega⟩
                refine hG ?_
                clear hG G hm6 hNY mRA off20 hJ
                k_steps
                have hb25 := backsTo_le (row := row) (j := 5) (by decide)
                refine call_lenN (PySem.IsL.isList (N20 (BA, lst ys2) (.head _)).1) hyl2 hnb5 (by omega) ?_
                clear hyl2 hnb5
                k_steps
                unfold Stop
                rename_i hM21 FM NM hT22 F22 N22 hk22 nm22
                rw [hsg] at F22 N22
                dsimp only at F22 N22 ⊢
                have lt22 : ∀ q ∈ (I1, oI1) :: (d0, oD) :: (WA, listOf vs.toArray n) :: (L' + 1 + 1, oA18) :: (L' + 1, oB9) :: tl2, q.1 ≠ hM21.objs.size := fun q hq => Nat.ne_of_lt (Heap.lt_size (NM q (List.mem_cons_of_mem _ (List.mem_cons_of_mem _ hq))).1)
                clear FM NM hk22
                generalize hM21.objs.size = TU at N22 lt22 ⊢
                refine hide fun R7 hR7 => ?_
                obtain ⟨tks, F22⟩ : ∃ tks, Fr s.heap L' hT22 (DM CU c tc light tl0 (.ref WA) vk (some (.ref d0)) (some (.int cnt t1)) (some (.int tot t2)) (some (.ref ra)) (some (.ref BA)) (some (.int (signR row) tks))) := by
                  exact ⟨_, fr_sets [(Str.ofString "sign", _), (Str.ofString "back", _), (Str.ofString "way", _)] F22 rfl rfl⟩
                obtain ⟨oT, hoT, N22⟩ : ∃ oT, (∃ t1 t2 t3 t4, oT = tupO #[.int (signR row) t1, .int (signR row) t2, .str light t3, .str light t4]) ∧ News s.heap L' hT22 ((TU, oT) :: (BA, lst ys2) :: (RA, lst zs) :: (I1, oI1) :: (d0, oD) :: (WA, listOf vs.toArray n) :: (L' + 1 + 1, oA18) :: (L' + 1, oB9) :: tl2) := ⟨_, ⟨_, _, _, _, rfl⟩, N22⟩
                obtain ⟨m7, hm7⟩ : ∃ m, m = DM CU c tc light tl0 (.ref WA) vk (some (.ref d0)) (some (.int cnt t1)) (some (.int tot t2)) (some (.ref ra)) (some (.ref BA)) (some (.int (signR row) tks)) := ⟨_, rfl⟩
                replace F22 := show Fr s.heap L' hT22 m7 from hm7 ▸ F22
                k_dflt (refine lcE (L := L') (m := m7) (h₀ := s.heap) (by rfl) (by decide) (by rfl) (by decide) (by rfl) (by intro _; rfl) ?_)
                k_steps
                obtain ⟨NY, hNY, mRA⟩ : ∃ NY, NY = (TU, oT) :: (BA, lst ys2) :: (RA, lst zs) :: (I1, oI1) :: (d0, oD) :: (WA, listOf vs.toArray n) :: (L' + 1 + 1, oA18) :: (L' + 1, oB9) :: tl2 ∧ (RA, lst zs) ∈ NY := ⟨_, rfl, .tail _ (.tail _ (.head _))⟩
                replace N22 := show News s.heap L' hT22 NY from hNY ▸ N22
                refine it_list rfl F22 N22 (.inr ⟨_, mRA, rfl, _, rfl⟩) fun I6 g23 St23 src6 F23 N23 off23 => lc_map (row.map fun k => Value.str ⟨#[letter k]⟩ 0) (by rw [List.length_map, List.size_toArray, hzl]) (by rw [List.size_toArray]; omega) rfl src6 F23 N23 off23 (.inr ⟨_, mRA, rfl, _, rfl⟩) ?el6 ?fin6
                case el6 =>
                  intro C D' q v ys' oI6 oC h24 tk24 hq hv hC F24 N24
                  refine hideP fun G hG => ?_
                  obtain ⟨u, hC24, hu⟩ := hC
                  have hq5 : q < 5 := by rw [← hRl, ← hzl]; simpa using hq
                  obtain ⟨ux, hx⟩ := num_at hzs (show q < row.length by omega)
                  have hvq := Option.some.inj ((show zs[q]? = some v by simpa using hv).symm.trans hx)
                  have hk2 := hR2 q
                  have hlet : some (Value.str ⟨#[letter (row.getD q 0)]⟩ 0) = (row.map fun k => Value.str ⟨#[letter k]⟩ 0)[q]? := by
                    rw [List.getElem?_map, List.getElem?_eq_getElem (show q < row.length by omega)]
                    simp [List.getElem?_eq_getElem (show q < row.length by omega)]
                  replace hu := hu.trans (congrArg some hvq)
                  refine hG ?_
                  clear hG G hvq hv
                  generalize row.getD q 0 = kx at hx hlet hk2 hu
                  have hk3 : kx = 0 ∨ kx = 1 ∨ kx = 2 := by omega
                  rcases hk3 with rfl | rfl | rfl
                  all_goals
                    k_steps
                    refine MapEnd.intro F24 N24 (fun _ h => h) ?_
                    rw [← hlet]
                    rfl
                case fin6 =>
                  intro ws hws WS h25 tk25 F25 N25 off25
                  refine hR7 _ _ ?_
                  clear hR7 R7
                  have dWS : d0 ≠ WS := off25 (d0, oD) (hNY ▸ by k_mem)
                  replace F25 := show Fr s.heap L' h25 (DM CU c tc light tl0 (.ref WA) vk (some (.ref d0)) (some (.int cnt t1)) (some (.int tot t2)) (some (.ref ra)) (some (.ref BA)) (some (.int (signR row) tks))) from hm7 ▸ F25
                  replace N25 := show News s.heap L' h25 ((WS, lst ws) :: (TU, oT) :: (BA, lst ys2) :: (RA, lst zs) :: (I1, oI1) :: (d0, oD) :: (WA, listOf vs.toArray n) :: (L' + 1 + 1, oA18) :: (L' + 1, oB9) :: tl2) from hNY ▸ N25
                  clear hm7 hNY mRA off25 F23 N23 off23 src6
                  k_steps
                  unfold Stop
                  refine join_word hRl hws (N25 (WS, lst ws) (.head _)).1 ?_
                  have hkey : valueAt body (wordOf row) = none := hRow ▸ fresh_word hc hbody hway hok
                  generalize hword : wordOf row = word at hkey ⊢
                  k_steps
                  unfold Stop
                  have g25 := N25 (d0, oD) (by k_mem)
                  have hbl : body.length ≤ 81 := body_le (i := i) hbody
                  refine wpAny_setItem_pairs (strKind_is _ _ _ _) (Heap.dictOf_iff.mpr ⟨oD, g25.1, hoD⟩) (fun h26 d26 s26 => ?_) (by rw [sizeLine_eq]; omega)
                  obtain ⟨oD', hoD', hd26⟩ := Heap.dictOf_iff.mp d26
                  have N26 := News.setIn (own := [(WS, lst ws), (TU, oT), (BA, lst ys2), (RA, lst zs), (I1, oI1)]) (rest := (WA, listOf vs.toArray n) :: (L' + 1 + 1, oA18) :: (L' + 1, oB9) :: tl2) N25 ?o1 ?o2 s26 hoD'
                  case o1 => exact all_cons dWS.symm (all_cons (fun e => lt22 (d0, oD) (by k_mem) e.symm) (all_cons dBA.symm (all_cons mOff.symm (all_cons (fun e => off6 (d0, oD) (by k_mem) e.symm) all_nil))))
                  case o2 => exact all_cons (Nat.ne_of_lt l1d.1) (all_cons (Nat.ne_of_lt l1d.2.1) (all_cons (Nat.ne_of_lt l1d.2.2.1) fun q hq => (hne q hq).1))
                  have F26 := F25.change s26 g25.2.1 g25.2.2
                  rw [stored_new hkey] at hd26
                  clear N25 F25 d26
                  replace N26 := show News s.heap L' h26 ((WS, lst ws) :: (TU, oT) :: (BA, lst ys2) :: (RA, lst zs) :: (I1, oI1) :: (d0, oD') :: (WA, listOf vs.toArray n) :: (L' + 1 + 1, oA18) :: (L' + 1, oB9) :: tl2) from N26
                  k_steps
                  refine hR3 _ _ ?_
                  dsimp only [FTurn]
                  rename_i hq27 h27 F27 N27
                  obtain ⟨u1, u2, F27⟩ : ∃ (u1 u2 : Tok), Fr s.heap L' h27 (DM CU c tc light tl0 (.ref WA) vk (some (.ref d0)) (some (.int (cnt + 1) u1)) (some (.int (tot + signR row) u2)) (some (.ref ra)) (some (.ref BA)) (some (.int (signR row) tks))) := by
                    exact ⟨_, _, fr_sets [(Str.ofString "total", _), (Str.ofString "count", _)] F27 rfl rfl⟩
                  obtain ⟨q1, q2, q3, q4, hoT⟩ := hoT
                  subst hoT
                  refine FNxt.intro F27 N27 ((d0, oD') :: (WA, listOf vs.toArray n) :: (L' + 1 + 1, oA18) :: (L' + 1, oB9) :: (TU, tupO #[.int (signR row) q1, .int (signR row) q2, .str light q3, .str light q4]) :: tl2) ?_ ?_ (.inr ⟨_, by k_mem, rfl, _, rfl⟩) ⟨oA18, oB9, oD', _, _, body ++ [(word, Value.ref TU)], (TU, tupO #[.int (signR row) q1, .int (signR row) q2, .str light q3, .str light q4]) :: tl2, cnt + 1, tot + signR row, u1, u2, some (.ref ra), some (.ref BA), some (.int (signR row) tks), dA18, dB9, hd26, ?_, fun q hq => List.mem_cons_of_mem _ (hsub q hq), ?_, ?_, ?_⟩
                  · exact fun _ hq => mem_pick (n := 9) (is := [4, 5, 6, 7, 8, 1]) hq
                  · exact all_cons (off6 (d0, oD) (by k_mem)) (all_cons (off6 (WA, listOf vs.toArray n) (by k_mem)) (all_cons (off6 (L' + 1 + 1, oA) (by k_mem)) (all_cons (off6 (L' + 1, oB) (by k_mem)) (all_cons (fun e => lt22 (I1, oI1) (by k_mem) e.symm) fun q hq => off6 q (.tail _ (.tail _ (.tail _ (.tail _ hq))))))))
                  · rw [due_snoc hway, if_pos hok, hRow, ← hword]
                    exact (hbody.mono fun a o h => List.mem_cons_of_mem _ h).snoc List.mem_cons_self
                  · intro q hq
                    rcases List.mem_cons.mp hq with rfl | hq
                    · exact ⟨fun e => lt22 (d0, oD) (by k_mem) e.symm, fun e => lt22 (L' + 1 + 1, oA18) (by k_mem) e.symm, fun e => lt22 (L' + 1, oB9) (by k_mem) e.symm⟩
                    · exact hne q hq
                  · rw [due_snoc hway, if_pos hok, List.length_append, hcnt]; rfl
                  · rw [due_snoc hway, if_pos hok, List.map_append, List.sum_append, htot, hRow]; simp
          · have hok : okM cs (marksOf c way) = false := not_ok_of hn8 fun e => h0 (hnb.trans e)
            rw [show decide (List.replicate nb (1 : Int) = []) = false by
              cases nb with
              | zero => exact absurd rfl h0
              | succ k => rfl]
            clear hnb
            k_steps
            refine hR3 _ _ ?_
            dsimp only [FTurn]
            replace F14 : Fr s.heap L' _ (DM CU c tc light tl0 (.ref WA) vk (some (.ref d0)) (some (.int cnt t1)) (some (.int tot t2)) (some (.ref ra)) vb vsg) := fr_sets [(Str.ofString "way", _)] F14 rfl rfl
            refine FNxt.intro F14 N14 ((d0, oD) :: (WA, listOf vs.toArray n) :: (L' + 1 + 1, oA) :: (L' + 1, oB9) :: tl2) ?_ ?_ (.inr ⟨_, by k_mem, rfl, _, rfl⟩) ⟨oA, oB9, oD, vA, _, body, tl2, cnt, tot, t1, t2, some (.ref ra), vb, vsg, dA, dB9, hoD, ?_, hsub, hne, ?_, ?_⟩
            · exact fun _ hq => .tail _ (.tail _ (.tail _ hq))
            · exact all_cons (off6 (d0, oD) (by k_mem)) (all_cons (off6 (WA, listOf vs.toArray n) (by k_mem)) (all_cons (off6 (L' + 1 + 1, oA) (by k_mem)) (all_cons (off6 (L' + 1, oB) (by k_mem)) fun q hq => off6 q (.tail _ (.tail _ (.tail _ (.tail _ hq)))))))
            · rw [due_snoc hway, hok]; simpa using hbody
            · rw [due_snoc hway, hok]; simpa using hcnt
            · rw [due_snoc hway, hok]; simpa using htot
end
end Mine
end
section
open PySem PySem.W PySem.Calls PyProof.Rows PyProof.Rows.LCg
set_option maxRecDepth 100000
namespace Mine
section
variable {prog : Program} {w : World} {A : Around} {s : Shared} {hb : Heap} {L : Addr} {m : Str → Option Value} {env : Env} {E : Value → Shared → Prop}
theorem for_listS {x : Str} {px : Pos} {body : List Stmt} {I ax : Addr} {its : Array Value} {nl : Nat} {news : List (Addr × Obj)} {Q : Flow → Shared → Prop}
    (J : Nat → Heap → Shared → (Str → Option Value) → List (Addr × Obj) → Prop)
    (stab : ∀ i hb s m news h tk, J i hb s m news → J i hb { s with heap := h, toks := tk } m news) (hJl : ∀ i hb s m news, J i hb s m news → (ax, listOf its nl) ∈ news)
    (hh : A.handled = none) (hLe : env.locals = L) (hx : env.kindOf x = some .local) (hp : (env.scope.kind == .class || (env.scope.kind == .module && env.locals != env.globals)) = false)
    (F : Fr hb L s.heap m) (N : News hb L s.heap news) (off : ∀ p ∈ news, p.1 ≠ I) (hit : s.heap.IsListIter I ax 0) (hI : hb.get? I = none) (hIL : I ≠ L) (hJ : J 0 hb s m news)
    (step : ∀ i v hb m₁ news₁ oI s₁, its[i]? = some v → J i hb s₁ m₁ news₁ → Fr hb L s₁.heap (fun y => if y = x then some v else m₁ y) → News hb L s₁.heap ((I, oI) :: news₁) → (∀ p ∈ news₁, p.1 ≠ I) →
      wpS (model prog w) A (execs body env) (GTurn L I oI (J (i + 1)) Q) ff s₁)
    (done : ∀ hb m₁ news₁ s₁, J its.size hb s₁ m₁ news₁ → Fr hb L s₁.heap m₁ → News hb L s₁.heap news₁ → Q .next s₁) :
    codeS (model prog w) A (.forLoop (.Name x px) (.ref I) body [] env) (fun r s' => ∃ f, r = .ok f ∧ Q f s') s := by
  subst hLe
  refine codeS_forLoop
    (fun k s' => ∃ i hb m' news', i ≤ its.size ∧ k = its.size + 1 - i ∧ s'.heap.IsListIter I ax i ∧ hb.get? I = none ∧ Fr hb env.locals s'.heap m' ∧ News hb env.locals s'.heap news' ∧ (∀ p ∈ news', p.1 ≠ I) ∧ J i hb s' m' news') ?_ (its.size + 1)
    ⟨0, hb, m, news, Nat.zero_le _, rfl, hit, hI, F, N, off, hJ⟩
  rintro k s' ⟨i, hb, m', news', hi, rfl, hit', hI', F', N', off', hJ'⟩
  have hl := hJl _ _ _ _ _ hJ'
  have hne : ax ≠ I := off' _ hl
  have hli : s'.heap.IsList ax its := ⟨_, (N' _ hl).1, rfl, _, rfl⟩
  by_cases hlt : i < its.size
  · refine (Walks.list hh I ax hne its).item i _ _ _ hlt ⟨hit', hli⟩ fun v h₁ tk₁ hP hst₁ hk₁ => ?_
    refine wpAny_of_eq (a := ()) (by rfl) ?_
    have F₁ := fr_but F' hk₁ (Ne.symm hIL) hI'
    have N₁ := news_but N' hk₁ off'
    refine wpAny_assign_Name (wpAny_storeName_local hx F₁.ns (fun h₂ hn₂ hs₂ => ?_) hp)
    have F₂ := F₁.set hn₂ hs₂
    have N₂ := N₁.set hs₂
    have hit₂ : h₂.IsListIter I ax (i + 1) := hst₁.1.at fun o e => hs₂.extBut _ _ hIL e
    obtain ⟨oI, heI, hIc, hId⟩ := id hit₂
    refine wpS_mono (step i v hb m' news' oI _ hP (stab i hb s' m' news' h₂ _ hJ') F₂ (fun p hp => ?_) off') (fun f s₃ h₃ => ?_) fun _ _ e => e.elim
    · rcases List.mem_cons.mp hp with rfl | hp
      · exact ⟨heI, hIL, hI'⟩
      · exact N₂ p hp
    · have fin : GNxt env.locals I oI (J (i + 1)) s₃ → ∃ k', k' < its.size + 1 - i ∧ ∃ i hb m' news', i ≤ its.size ∧ k' = its.size + 1 - i ∧ s₃.heap.IsListIter I ax i ∧ hb.get? I = none ∧ Fr hb env.locals s₃.heap m' ∧ News hb env.locals s₃.heap news' ∧ (∀ p ∈ news', p.1 ≠ I) ∧ J i hb s₃ m' news' := by
        rintro ⟨hb₄, m₄, news₄, F₄, N₄, off₄, hJ₄⟩
        exact ⟨its.size + 1 - (i + 1), by omega, i + 1, hb₄, m₄, news₄, hlt, rfl, ⟨oI, (N₄ _ List.mem_cons_self).1, hIc, hId⟩, (N₄ _ List.mem_cons_self).2.2, F₄, fun p hp => N₄ p (List.mem_cons_of_mem _ hp), off₄, hJ₄⟩
      cases f with
      | next => exact fin h₃
      | cont => exact fin h₃
      | brk => exact ⟨_, rfl, h₃⟩
      | ret v => exact ⟨_, rfl, h₃⟩
  · obtain rfl : i = its.size := Nat.le_antisymm hi (Nat.not_lt.mp hlt)
    refine (Walks.list hh I ax hne its).done _ _ _ ⟨hit', hli⟩ fun h₂ tk₂ hk₂ => wpS_of (wpAny_execs_nil ?_)
    exact ⟨_, rfl, done hb m' news' _ (stab _ _ _ _ _ h₂ tk₂ hJ') (fr_but F' hk₂ (Ne.symm hIL) hI') (news_but N' hk₂ off')⟩
theorem for_listE {x : Str} {px : Pos} {body : List Stmt} {ax : Addr} {its : Array Value} {nl : Nat} {news : List (Addr × Obj)} {Q : Flow → Shared → Prop}
    (J : Nat → Heap → Shared → (Str → Option Value) → List (Addr × Obj) → Prop)
    (stab : ∀ i hb s m news h tk, J i hb s m news → J i hb { s with heap := h, toks := tk } m news) (hJl : ∀ i hb s m news, J i hb s m news → (ax, listOf its nl) ∈ news)
    (hh : A.handled = none) (hLe : env.locals = L) (hx : env.kindOf x = some .local) (hp : (env.scope.kind == .class || (env.scope.kind == .module && env.locals != env.globals)) = false)
    (F : Fr hb L s.heap m) (N : News hb L s.heap news) (hJ : J 0 hb s m news)
    (step : ∀ i v hb m₁ news₁ I oI s₁, its[i]? = some v → J i hb s₁ m₁ news₁ → Fr hb L s₁.heap (fun y => if y = x then some v else m₁ y) → News hb L s₁.heap ((I, oI) :: news₁) → (∀ p ∈ news₁, p.1 ≠ I) →
      wpS (model prog w) A (execs body env) (GTurn L I oI (J (i + 1)) Q) ff s₁)
    (done : ∀ hb m₁ news₁ s₁, J its.size hb s₁ m₁ news₁ → Fr hb L s₁.heap m₁ → News hb L s₁.heap news₁ → Q .next s₁) :
    wpAny (model prog w) A (pyIter (.ref ax)) (fun it s₂ => codeS (model prog w) A (.forLoop (.Name x px) it body [] env) (fun r s' => ∃ f, r = .ok f ∧ Q f s') s₂) E s := by
  have hl := hJl _ _ _ _ _ hJ
  have hli : s.heap.IsList ax its := ⟨_, (N _ hl).1, rfl, _, rfl⟩
  obtain ⟨F', N', off⟩ := pushI (o := { cls := .type "list_iterator", data := .fields #[.ref ax, .int 0 0] }) F N
  refine wpAny_pyIter_list hli ?_
  exact for_listS J stab hJl hh hLe hx hp F' N' off ⟨_, Heap.get?_push_size _ rfl, rfl, rfl⟩ (next_is_new F) (Nat.ne_of_gt F.ns.lt) (stab 0 hb s m news _ _ hJ) (fun i v hb m₁ news₁ oI s₁ a b c d e => step i v hb m₁ news₁ _ oI s₁ a b c d e) done
end
end Mine
end
section
open PySem PySem.W PySem.Calls PyProof.Rows PyProof.Rows.LCg
namespace Mine
set_option maxRecDepth 100000
set_option maxHeartbeats 8000000
noncomputable def revRow (row : List Nat) : List Nat := row.reverse.map fun k => 2 - k
noncomputable def RowOk (c : Nat) (ps ms row : List Nat) : Prop :=
  row.length = 5 ∧ (∀ k ∈ row, Wheel k) ∧ joinGo ps 1 row = (signR row, some c) ∧ ((joinGo ms 1 (revRow row)).1 ≠ 0 → joinGo ms 1 (revRow row) = (signR row, some (2 - c)))
noncomputable def toldRows (ms : List Nat) (rows : List (List Nat)) : List (List Nat) := rows.filter fun row => (joinGo ms 1 (revRow row)).1 != 0
theorem told_snoc {ms : List Nat} {rows : List (List Nat)} {i : Nat} {row : List Nat} (h : rows[i]? = some row) : toldRows ms (rows.take (i + 1)) = toldRows ms (rows.take i) ++ if (joinGo ms 1 (revRow row)).1 ≠ 0 then [row] else [] := by
  unfold toldRows
  rw [List.take_add_one, h, List.filter_append]
  congr 1
  by_cases e : (joinGo ms 1 (revRow row)).1 = 0 <;> simp [e]
structure ToldTab (get : Addr → Obj → Prop) (light : Str) (kvs : List (Str × Value)) (rows : List (List Nat)) : Prop where
  len : kvs.length = rows.length + if rows = [] then 0 else 1
  keys : ∀ e ∈ kvs, e.1 = light ∨ e.1 ∈ rows.map wordOf
  row : ∀ row ∈ rows, ∃ (a : Addr) (t1 t2 t3 t4 : Tok), valueAt kvs (wordOf row) = some (.ref a) ∧ get a (tupO #[.int (signR row) t1, .int (signR row) t2, .str light t3, .str light t4])
  light : if rows = [] then kvs = [] else ∃ (a : Addr) (t1 t2 t3 : Tok), valueAt kvs light = some (.ref a) ∧ get a (tupO #[.int (rows.length : Int) t1, .int (rows.map signR).sum t2, .int (rows.map signR).sum t3])
theorem ToldTab.nil {get : Addr → Obj → Prop} {light : Str} : ToldTab get light [] [] := ⟨by simp, fun _ h => (by cases h), fun _ h => (by cases h), by simp⟩
theorem ToldTab.mono {get get' : Addr → Obj → Prop} {light : Str} {kvs : List (Str × Value)} {rows : List (List Nat)} (h : ToldTab get light kvs rows) (hg : ∀ a o, get a o → get' a o) : ToldTab get' light kvs rows :=
  ⟨h.len, h.keys, fun row hr => let ⟨a, t1, t2, t3, t4, e1, e2⟩ := h.row row hr; ⟨a, t1, t2, t3, t4, e1, hg _ _ e2⟩, by
    have z := h.light
    split at z
    · next e => rw [if_pos e]; exact z
    · next e => rw [if_neg e]; obtain ⟨a, t1, t2, t3, e1, e2⟩ := z; exact ⟨a, t1, t2, t3, e1, hg _ _ e2⟩⟩
theorem ToldTab.old {get : Addr → Obj → Prop} {light : Str} {kvs : List (Str × Value)} {rows : List (List Nat)} (h : ToldTab get light kvs rows) :
    ∃ old : Option (Addr × Int × Int × Int), valueAt kvs light = old.map (fun x => .ref x.1) ∧ (∀ x, old = some x → ∃ t1 t2 t3, get x.1 (tupO #[.int x.2.1 t1, .int x.2.2.1 t2, .int x.2.2.2 t3])) ∧
      (∀ sg : Int, (1 + (old.elim 0 fun x => x.2.1) = ((rows.length + 1 : Nat) : Int)) ∧ sg + (old.elim 0 fun x => x.2.2.1) = (rows.map signR).sum + sg ∧ sg + (old.elim 0 fun x => x.2.2.2) = (rows.map signR).sum + sg) := by
  have z := h.light
  by_cases e : rows = []
  · rw [if_pos e] at z
    subst e; subst z
    exact ⟨none, rfl, (fun _ h => by cases h), fun sg => ⟨rfl, by simp, by simp⟩⟩
  · rw [if_neg e] at z
    obtain ⟨a, t1, t2, t3, e1, e2⟩ := z
    refine ⟨some (a, (rows.length : Int), (rows.map signR).sum, (rows.map signR).sum), e1, fun x hx => ?_, fun sg => ⟨?_, Int.add_comm _ _, Int.add_comm _ _⟩⟩
    · cases hx; exact ⟨t1, t2, t3, e2⟩
    · simp only [Option.elim]; omega
theorem valueAt_map {K : Type} [DecidableEq K] {k k' : K} {v : Value} : ∀ {kvs : List (K × Value)}, valueAt (kvs.map fun kv => if kv.1 = k then (kv.1, v) else kv) k' = if k' = k then (if kvs.any (fun kv => kv.1 = k) then some v else none) else valueAt kvs k'
  | [] => by simp [valueAt]
  | x :: xs => by
    have ih := valueAt_map (k := k) (k' := k') (v := v) (kvs := xs)
    unfold valueAt at ih ⊢
    rw [List.map_cons, List.find?_cons, List.any_cons, List.find?_cons]
    by_cases e : x.1 = k
    · by_cases e' : k' = k
      · simp [e, e']
      · have e2 : ¬ x.1 = k' := fun q => e' (q.symm.trans e)
        simp [e, e', e2, Ne.symm e'] at ih ⊢
        exact ih
    · by_cases e' : k' = k
      · subst e'
        have e3 : decide (x.1 = k') = false := decide_eq_false e
        simp only [e, e3, if_false, if_true, Bool.false_or] at ih ⊢
        exact ih
      · by_cases e2 : x.1 = k'
        · simp [e, e', e2]
        · simp [e, e', e2] at ih ⊢
          exact ih
theorem valueAt_stored {K : Type} [DecidableEq K] {kvs : List (K × Value)} {k k' : K} {v : Value} : valueAt (stored kvs k v) k' = if k' = k then some v else valueAt kvs k' := by
  unfold stored
  split
  · next h => rw [valueAt_map, if_pos h]
  · next h =>
    unfold valueAt
    rw [List.find?_append]
    by_cases e : k' = k
    · subst e
      rw [if_pos rfl, List.find?_eq_none.mpr (fun x hx q => h (List.any_eq_true.mpr ⟨x, hx, q⟩))]
      simp
    · rw [if_neg e]
      cases hf : List.find? (fun kv => decide (kv.1 = k')) kvs with
      | some x => simp
      | none => simp [Ne.symm e]
theorem stored_keys {kvs : List (Str × Value)} {k : Str} {v : Value} : ∀ e ∈ stored kvs k v, e.1 = k ∨ ∃ e' ∈ kvs, e'.1 = e.1 := by
  intro e he
  unfold stored at he
  split at he
  · obtain ⟨e', h1, rfl⟩ := List.mem_map.mp he
    refine .inr ⟨e', h1, ?_⟩
    split <;> rfl
  · rcases List.mem_append.mp he with he | he
    · exact .inr ⟨e, he, rfl⟩
    · rw [List.mem_singleton.mp he]; exact .inl rfl
theorem stored_old_length {kvs : List (Str × Value)} {k : Str} {v : Value} (h : (valueAt kvs k).isSome = true) : (stored kvs k v).length = kvs.length := by
  unfold stored
  rw [if_pos]
  · rw [List.length_map]
  · unfold valueAt at h
    rw [Option.isSome_map] at h
    obtain ⟨x, hx⟩ := Option.isSome_iff_exists.mp h
    exact List.any_eq_true.mpr ⟨x, List.mem_of_find?_eq_some hx, by simpa using List.find?_some hx⟩
theorem ToldTab.fresh {get : Addr → Obj → Prop} {light word : Str} {kvs : List (Str × Value)} {rows : List (List Nat)} (h : ToldTab get light kvs rows) (hw : word ∉ rows.map wordOf) (hl : word ≠ light) : valueAt kvs word = none := by
  unfold valueAt
  rw [Option.map_eq_none_iff, List.find?_eq_none]
  intro e he hk
  have hk' : e.1 = word := by simpa using hk
  rcases h.keys e he with q | q
  · exact hl (hk'.symm.trans q)
  · rw [hk'] at q; exact hw q
theorem ToldTab.snoc {get get' : Addr → Obj → Prop} {light : Str} {kvs : List (Str × Value)} {rows : List (List Nat)} {row : List Nat} {a b : Addr} {v : Value} {old : Option (Addr × Int × Int × Int)} {tl : List (Addr × Obj)} (h : ToldTab get light kvs rows) (hw : wordOf row ∉ rows.map wordOf) (hl : wordOf row ≠ light) (ne : ∀ r ∈ rows, wordOf r ≠ light)
    (ho : valueAt kvs light = old.map fun x => .ref x.1)
    (hs : (1 + (old.elim 0 fun x => x.2.1) = ((rows.length + 1 : Nat) : Int)) ∧ signR row + (old.elim 0 fun x => x.2.2.1) = (rows.map signR).sum + signR row ∧ signR row + (old.elim 0 fun x => x.2.2.2) = (rows.map signR).sum + signR row)
    (hg : ∀ a o, get a o → get' a o) (ha : ∃ t1 t2 t3 t4, get' a (tupO #[.int (signR row) t1, .int (signR row) t2, .str light t3, .str light t4])) (hb : ∃ t1 t2 t3, get' b (tupO #[.int 1 t1, .int (signR row) t2, .int (signR row) t3]))
    (hv : SumPost old b 1 (signR row) (signR row) v tl) (ht : ∀ q ∈ tl, get' q.1 q.2) : ToldTab get' light (stored (stored kvs (wordOf row) (.ref a)) light v) (rows ++ [row]) := by
  have fr := h.fresh hw hl
  refine ⟨?_, ?_, ?_, ?_⟩
  · rw [List.length_append, List.length_singleton, if_neg (by simp)]
    have l1 : (stored kvs (wordOf row) (Value.ref a)).length = kvs.length + 1 := by rw [stored_new fr, List.length_append]; rfl
    have z := h.light
    have l0 := h.len
    by_cases e : rows = []
    · rw [if_pos e] at z
      subst z; subst e
      rw [show stored ([] : List (Str × Value)) (wordOf row) (Value.ref a) = [(wordOf row, Value.ref a)] from rfl, stored_new]
      · rfl
      · simp [valueAt, hl]
    · rw [if_neg e] at z l0
      obtain ⟨a', _, _, _, e1, _⟩ := z
      rw [stored_old_length, l1, l0]
      rw [valueAt_stored, if_neg (Ne.symm hl), e1]; rfl
  · intro e he
    rw [List.map_append]
    rcases stored_keys e he with q | ⟨e', h1, h2⟩
    · exact .inl q
    · rcases stored_keys e' h1 with q | ⟨e'', h3, h4⟩
      · right; rw [← h2, q]; simp
      · rcases h.keys e'' h3 with q | q
        · left; rw [← h2, ← h4, q]
        · right; rw [← h2, ← h4]; exact List.mem_append_left _ q
  · intro r hr
    rcases List.mem_append.mp hr with hr | hr
    · obtain ⟨a', t1, t2, t3, t4, e1, e2⟩ := h.row r hr
      refine ⟨a', t1, t2, t3, t4, ?_, hg _ _ e2⟩
      rw [valueAt_stored, if_neg (ne r hr), valueAt_stored, if_neg (fun q => hw (by rw [← q]; exact List.mem_map_of_mem hr)), e1]
    · rw [List.mem_singleton.mp hr]
      obtain ⟨t1, t2, t3, t4, e⟩ := ha
      refine ⟨a, t1, t2, t3, t4, ?_, e⟩
      rw [valueAt_stored, if_neg hl, valueAt_stored, if_pos rfl]
  · rw [if_neg (by simp)]
    have e1 : valueAt (stored (stored kvs (wordOf row) (.ref a)) light v) light = some v := by rw [valueAt_stored, if_pos rfl]
    rw [List.length_append, List.map_append, List.sum_append]
    simp only [List.length_singleton, List.map_cons, List.map_nil, List.sum_cons, List.sum_nil, Int.add_zero]
    obtain ⟨s1, s2, s3⟩ := hs
    cases old with
    | none =>
      obtain rfl : v = .ref b := hv
      obtain ⟨t1, t2, t3, e⟩ := hb
      simp only [Option.elim, Int.add_zero] at s1 s2 s3
      refine ⟨b, t1, t2, t3, e1, ?_⟩
      rw [← s1, ← s2]
      exact e
    | some x =>
      obtain ⟨D, t1, t2, t3, rfl, e⟩ := hv
      simp only [Option.elim] at s1 s2 s3
      refine ⟨D, t1, t2, t3, e1, ?_⟩
      have := ht _ e
      rw [s1, s2, s3] at this
      exact this
end Mine
end
section
open PySem PySem.W PySem.Calls PyProof.Rows PyProof.Rows.LCg
namespace Mine
set_option maxRecDepth 100000
set_option maxHeartbeats 8000000
noncomputable def mirOk (c : Nat) (ms : List Nat) (way : List Nat) : Bool :=
  let row := rowM (marksOf c way)
  let j := joinGo [3 - ms.getD 0 0, 2 - ms.getD 1 0, 1 - ms.getD 2 0, 0] 1 (revRow row)
  !(lastDiff (marksOf c way)) || (if okM (cutsOf ms) (marksOf c way) then decide (j = (signR row, some (2 - c)) ∧ j.1 ≠ 0) else decide (j.1 = 0))
noncomputable def firstOk (c : Nat) (ps : List Nat) : Bool :=
  (undone c ps).isPerm (dueRows (cutsOf ps) c (waysTo 4)) && (undone c ps).all fun row => row.length == 5 && row.all (fun k => decide (k < 3)) && decide (joinGo ps 1 row = (signR row, some c))
noncomputable def firstAll (c : Nat) : Bool := (List.range 4).all fun p0 => (List.range 3).all fun p1 => (List.range 2).all fun p2 => firstOk c [p0, p1, p2, 0]
noncomputable def mirAll (c : Nat) : Bool := (List.range 4).all fun p0 => (List.range 3).all fun p1 => (List.range 2).all fun p2 => (waysTo 4).all (mirOk c [p0, p1, p2, 0])
theorem first_all0 : firstAll 0 = true := by decide +kernel
theorem first_all1 : firstAll 1 = true := by decide +kernel
theorem first_all2 : firstAll 2 = true := by decide +kernel
theorem mir_all0 : mirAll 0 = true := by decide +kernel
theorem mir_all1 : mirAll 1 = true := by decide +kernel
theorem mir_all2 : mirAll 2 = true := by decide +kernel
theorem first_all {c : Nat} (hc : Wheel c) : firstAll c = true := by
  rcases hc with rfl | rfl | rfl
  · exact first_all0
  · exact first_all1
  · exact first_all2
theorem mir_all {c : Nat} (hc : Wheel c) : mirAll c = true := by
  rcases hc with rfl | rfl | rfl
  · exact mir_all0
  · exact mir_all1
  · exact mir_all2
theorem wheel_lt {k : Nat} : Wheel k ↔ k < 3 := by unfold Wheel; omega
section
variable {c p0 p1 p2 m0 m1 m2 : Nat}
theorem first_ok (hc : Wheel c) (q0 : p0 < 4) (q1 : p1 < 3) (q2 : p2 < 2) : firstOk c [p0, p1, p2, 0] = true := by
  have h := first_all hc
  unfold firstAll at h
  simp only [List.all_eq_true, List.mem_range] at h
  exact h p0 q0 p1 q1 p2 q2
theorem mir_ok (hc : Wheel c) (q0 : m0 < 4) (q1 : m1 < 3) (q2 : m2 < 2) {way : List Nat} (hw : way ∈ waysTo 4) : mirOk c [m0, m1, m2, 0] way = true := by
  have h := mir_all hc
  unfold mirAll at h
  simp only [List.all_eq_true, List.mem_range] at h
  exact h m0 q0 m1 q1 m2 q2 way hw
theorem first_perm (hc : Wheel c) (q0 : p0 < 4) (q1 : p1 < 3) (q2 : p2 < 2) : (undone c [p0, p1, p2, 0]).Perm (dueRows (cutsOf [p0, p1, p2, 0]) c (waysTo 4)) := by
  have h := first_ok hc q0 q1 q2
  unfold firstOk at h
  rw [Bool.and_eq_true] at h
  exact List.isPerm_iff.mp h.1
theorem first_row (hc : Wheel c) (q0 : p0 < 4) (q1 : p1 < 3) (q2 : p2 < 2) {row : List Nat} (hr : row ∈ undone c [p0, p1, p2, 0]) : row.length = 5 ∧ (∀ k ∈ row, Wheel k) ∧ joinGo [p0, p1, p2, 0] 1 row = (signR row, some c) := by
  have h := first_ok hc q0 q1 q2
  unfold firstOk at h
  rw [Bool.and_eq_true] at h
  have z := List.all_eq_true.mp h.2 row hr
  simp only [Bool.and_eq_true, beq_iff_eq, List.all_eq_true, decide_eq_true_eq] at z
  exact ⟨z.1.1, fun k hk => wheel_lt.mpr (z.1.2 k hk), z.2⟩
theorem due_way {cs : List (Nat × Nat)} {row : List Nat} (h : row ∈ dueRows cs c (waysTo 4)) : ∃ way ∈ waysTo 4, row = rowM (marksOf c way) ∧ okM cs (marksOf c way) = true := by
  unfold dueRows at h
  obtain ⟨m, hm, rfl⟩ := List.mem_map.mp h
  obtain ⟨hm, hok⟩ := List.mem_filter.mp hm
  obtain ⟨way, hw, rfl⟩ := List.mem_map.mp hm
  exact ⟨way, hw, rfl, hok⟩
theorem ok_last {cs : List (Nat × Nat)} {m : List Nat} (h : okM cs m = true) : lastDiff m = true := List.all_eq_true.mp h (4, 5) (List.mem_append_right _ (List.mem_singleton.mpr rfl))
theorem ok_both {a b : List (Nat × Nat)} {m : List Nat} : okM (a ++ b) m = (okM a m && okM b m) := by
  unfold okM
  simp only [List.all_append]
  generalize (a.all fun x => m.getD x.1 0 != m.getD x.2 0) = x
  generalize (b.all fun x => m.getD x.1 0 != m.getD x.2 0) = y
  generalize ([((4 : Nat), (5 : Nat))].all fun x => m.getD x.1 0 != m.getD x.2 0) = z
  cases x <;> cases y <;> cases z <;> rfl
theorem mir_at (hc : Wheel c) (q0 : m0 < 4) (q1 : m1 < 3) (q2 : m2 < 2) {way : List Nat} (hw : way ∈ waysTo 4) (hl : lastDiff (marksOf c way) = true) :
    (okM (cutsOf [m0, m1, m2, 0]) (marksOf c way) = true → joinGo [3 - m0, 2 - m1, 1 - m2, 0] 1 (revRow (rowM (marksOf c way))) = (signR (rowM (marksOf c way)), some (2 - c)) ∧ (joinGo [3 - m0, 2 - m1, 1 - m2, 0] 1 (revRow (rowM (marksOf c way)))).1 ≠ 0) ∧
    (okM (cutsOf [m0, m1, m2, 0]) (marksOf c way) = false → (joinGo [3 - m0, 2 - m1, 1 - m2, 0] 1 (revRow (rowM (marksOf c way)))).1 = 0) := by
  have h := mir_ok hc q0 q1 q2 hw
  unfold mirOk at h
  simp only [hl, Bool.not_true, Bool.false_or] at h
  refine ⟨fun e => ?_, fun e => ?_⟩
  · rw [if_pos e] at h; exact of_decide_eq_true h
  · rw [if_neg (by rw [e]; decide)] at h; exact of_decide_eq_true h
theorem rows_ok (hc : Wheel c) (q0 : p0 < 4) (q1 : p1 < 3) (q2 : p2 < 2) (r0 : m0 < 4) (r1 : m1 < 3) (r2 : m2 < 2) :
    ∀ row ∈ undone c [p0, p1, p2, 0], RowOk c [p0, p1, p2, 0] [3 - m0, 2 - m1, 1 - m2, 0] row := by
  intro row hr
  obtain ⟨h1, h2, h3⟩ := first_row hc q0 q1 q2 hr
  refine ⟨h1, h2, h3, fun hn => ?_⟩
  obtain ⟨way, hw, rfl, hok⟩ := due_way ((first_perm hc q0 q1 q2).mem_iff.mp hr)
  have z := mir_at hc r0 r1 r2 hw (ok_last hok)
  cases e : okM (cutsOf [m0, m1, m2, 0]) (marksOf c way) with
  | true => exact (z.1 e).1
  | false => exact absurd (z.2 e) hn
theorem due_nodup {cs : List (Nat × Nat)} (hc : Wheel c) : ((dueRows cs c (waysTo 4)).map wordOf).Nodup := by
  have h := due_sub (cs := cs) (c := c) (i := (waysTo 4).length)
  rw [List.take_length] at h
  exact List.Nodup.sublist h (allWords_nodup hc)
theorem words_nodup (hc : Wheel c) (q0 : p0 < 4) (q1 : p1 < 3) (q2 : p2 < 2) : ((undone c [p0, p1, p2, 0]).map wordOf).Nodup :=
  ((first_perm hc q0 q1 q2).map wordOf).nodup_iff.mpr (due_nodup hc)
theorem undone_len {ps : List Nat} : (undone c ps).length = 2 ^ ps.length := by
  have go : ∀ (l : List Nat) (rows : List (List Nat)), (l.foldl (fun rows p => undo p rows) rows).length = 2 ^ l.length * rows.length := by
    intro l
    induction l with
    | nil => intro rows; simp
    | cons p l ih => intro rows; rw [List.foldl_cons, ih, undo_length, List.length_cons, Nat.pow_succ, Nat.mul_assoc]
  unfold undone
  rw [go, List.length_reverse]; simp
theorem told_perm (hc : Wheel c) (q0 : p0 < 4) (q1 : p1 < 3) (q2 : p2 < 2) (r0 : m0 < 4) (r1 : m1 < 3) (r2 : m2 < 2) :
    (toldRows [3 - m0, 2 - m1, 1 - m2, 0] (undone c [p0, p1, p2, 0])).Perm (dueRows (cutsOf [p0, p1, p2, 0] ++ cutsOf [m0, m1, m2, 0]) c (waysTo 4)) := by
  unfold toldRows
  refine ((first_perm hc q0 q1 q2).filter _).trans (List.Perm.of_eq ?_)
  unfold dueRows
  rw [List.filter_map]
  have e : (((waysTo 4).map (marksOf c)).filter (okM (cutsOf [p0, p1, p2, 0]))).filter ((fun row => (joinGo [3 - m0, 2 - m1, 1 - m2, 0] 1 (revRow row)).1 != 0) ∘ rowM) = ((waysTo 4).map (marksOf c)).filter (okM (cutsOf [p0, p1, p2, 0] ++ cutsOf [m0, m1, m2, 0])) := by
    rw [List.filter_filter]
    refine List.filter_congr fun m hm => ?_
    obtain ⟨way, hw, rfl⟩ := List.mem_map.mp hm
    rw [ok_both]
    cases e1 : okM (cutsOf [p0, p1, p2, 0]) (marksOf c way) with
    | false => simp
    | true =>
      have z := mir_at hc r0 r1 r2 hw (ok_last e1)
      cases e2 : okM (cutsOf [m0, m1, m2, 0]) (marksOf c way) with
      | true => simpa using (z.1 e2).2
      | false => simpa using z.2 e2
  rw [e]
end
end Mine
end
section
open PySem PySem.W PySem.Calls PyProof.Rows PyProof.Rows.LCg
namespace Mine
set_option maxRecDepth 100000
set_option maxHeartbeats 8000000
noncomputable def octN (vi si : Int) (ks : List Nat) : List Int := ks.flatMap fun k => [oct vi si k 0, oct vi si k 1, oct vi si k 2]
theorem ints_of_nt : ∀ {ys : List Value} {ns : List Int}, ys.map nt = ns.map (fun x => Value.int x 0) → IntsAre ys ns
  | [], [], _ => .nil
  | y :: ys, n :: ns, h => by
    simp only [List.map_cons, List.cons.injEq] at h
    obtain ⟨t, rfl⟩ := nt_int h.1
    exact .cons _ t (ints_of_nt h.2)
theorem octN_ok {vi si : Int} (z : ∀ k j, 0 ≤ oct vi si k j ∧ oct vi si k j ≤ 160) {ks : List Nat} : ∀ n ∈ octN vi si ks, 0 ≤ n ∧ n < 256 := by
  intro n hn
  unfold octN at hn
  obtain ⟨k, _, hk⟩ := List.mem_flatMap.mp hn
  simp only [List.mem_cons, List.not_mem_nil, or_false] at hk
  rcases hk with rfl | rfl | rfl <;> exact ⟨(z _ _).1, by have := (z k 0).2; have := (z k 1).2; have := (z k 2).2; omega⟩
theorem film_of {vi si : Int} {a b c d e : Nat} : ((octN vi si [a, b, c, d, e]).map fun n => n.toNat.toUInt8).toArray = film5 vi si a b c d e := rfl
theorem oct_rev {vi si : Int} {k : Nat} (h : Wheel k) : oct vi si (2 - k) 0 = oct vi si k 2 ∧ oct vi si (2 - k) 1 = oct vi si k 1 ∧ oct vi si (2 - k) 2 = oct vi si k 0 := by
  rcases h with rfl | rfl | rfl <;> exact ⟨rfl, rfl, rfl⟩
theorem film_rev {vi si : Int} {a b c d e : Nat} (ha : Wheel a) (hb : Wheel b) (hc : Wheel c) (hd : Wheel d) (he : Wheel e) : (film5 vi si a b c d e).reverse = film5 vi si (2 - e) (2 - d) (2 - c) (2 - b) (2 - a) := by
  obtain ⟨a0, a1, a2⟩ := oct_rev (vi := vi) (si := si) ha
  obtain ⟨b0, b1, b2⟩ := oct_rev (vi := vi) (si := si) hb
  obtain ⟨c0, c1, c2⟩ := oct_rev (vi := vi) (si := si) hc
  obtain ⟨d0, d1, d2⟩ := oct_rev (vi := vi) (si := si) hd
  obtain ⟨e0, e1, e2⟩ := oct_rev (vi := vi) (si := si) he
  unfold film5
  rw [a0, a1, a2, b0, b1, b2, c0, c1, c2, d0, d1, d2, e0, e1, e2, List.reverse_toArray]
  rfl
theorem wheel_rev {k : Nat} (h : Wheel k) : Wheel (2 - k) := by rcases h with rfl | rfl | rfl <;> simp [Wheel]
theorem lt_rev {vi si : Int} {k : Nat} (z : ∀ k j, 0 ≤ oct vi si k j ∧ oct vi si k j ≤ 160) (h : Wheel k) : (⟨#[(b8 (oct vi si (2 - k) 2)).toNat, (b8 (oct vi si (2 - k) 1)).toNat, (b8 (oct vi si (2 - k) 0)).toNat]⟩ : Str) = lt vi si k := by
  obtain ⟨a0, a1, a2⟩ := oct_rev (vi := vi) (si := si) h
  rw [b8_nat (z _ _), b8_nat (z _ _), b8_nat (z _ _), a0, a1, a2]; rfl
theorem word_ne {vi si : Int} {c : Nat} {row : List Nat} (h : row.length = 5) : wordOf row ≠ lt vi si c := by
  intro e
  have := congrArg (fun x : Str => x.cps.size) e
  simp only [wordOf, lt, List.size_toArray, List.length_map, h] at this
  exact absurd (show 5 = 3 from this) (by decide)
theorem sign_ne (row : List Nat) : signR row ≠ 0 := by unfold signR; omega
theorem five_of {row : List Nat} (h : row.length = 5) : ∃ a b c d e, row = [a, b, c, d, e] := by
  match row, h with
  | [a, b, c, d, e], _ => exact ⟨a, b, c, d, e, rfl⟩
section
variable {A : Around} {E : Value → Shared → Prop} {s : Shared} {env : Env}
theorem wpS_callWith_functionE {pos : Pos} {a : Addr} {first : List Value} {args : List (Bool × Sem Value)} {Q : Value → Shared → Prop} {M : Model}
    (h : wpS M A (evalArgs (.ref a) true args []) (fun x s₁ => (∃ o fd, s₁.heap.get? a = some o ∧ o.data = .func fd) ∧ wpS M A (call (.ref a) (first ++ x.pos) x.kw) Q E s₁) E s) :
    wpS M A (callWith pos (.ref a) first args []) Q E s := by
  unfold callWith
  refine wpS_bind (wpS_holding (wpS_mono h (fun x s₁ h₁ => wpS_first (wpAny_standAt ?_)) fun _ _ x => x))
  obtain ⟨⟨o, fd, ho, hfd⟩, h₁⟩ := h₁
  have tail : ∀ {t : Sem Value}, wpS M A t Q E s₁ → wpS M A (t >>= fun r => holding [r] point >>= fun _ => pure r) Q E s₁ :=
    fun ht => wpS_bind (wpS_mono ht (fun r s₂ hr => wpS_of (wpAny_bind (wpAny_holding (wpAny_point (wpAny_pure hr))))) fun _ _ x => x)
  cases hs : args.any (·.1) <;> simp only [List.any_nil, Bool.or_false] <;>
    refine wpS_first (m := keeperOf (.ref a)) ?_ <;> unfold keeperOf <;>
    refine wpAny_bind (wpAny_load ho ?_) <;> rw [hfd] <;> refine wpAny_pure ?_
  · dsimp only
    split
    · exact tail h₁
    · exact tail (t := callMarked plainCall (.ref a) (first ++ x.pos) x.kw) (by unfold callMarked; exact wpS_keep h₁)
  · exact tail (t := callMarked starredCall (.ref a) (first ++ x.pos) x.kw) (by unfold callMarked; exact wpS_keep h₁)
noncomputable def ToDef (a : Addr) (s : Shared) (P : Prop) : Prop := (∃ o fd, s.heap.get? a = some o ∧ o.data = .func fd) ∧ P
theorem wpS_callDef {pos : Pos} {a : Addr} {e : PySem.Expr} {rest : List PySem.Expr} {Q : Value → Shared → Prop} {M : Model}
    (h : wpS M A (spliced (backTo pos (starEach (e :: rest) env))) (fun vs s₁ => ToDef a s₁ (wpS M A (call (.ref a) vs) Q E s₁)) E s)
    (he : starEach (e :: rest) env = (false, eval e env) :: starEach rest env := by rfl) :
    wpS M A (callWith pos (.ref a) [] (backTo pos (starEach (e :: rest) env)) []) Q E s := by
  rw [he] at h ⊢
  exact wpS_callWith_functionE (wpS_evalArgs_plain h)
end
section
variable {w : World} {h : Heap}
theorem fun_swap (X : (hd.heap_1 w.params).In h) : ∃ o fd, h.get? 105 = some o ∧ o.data = Data.func fd := ⟨_, _, X 105 _ (by rfl), by rfl⟩
theorem fun_joined (X : (hd.heap_1 w.params).In h) : ∃ o fd, h.get? 132 = some o ∧ o.data = .func fd := ⟨_, _, X 132 _ (by rfl), by rfl⟩
theorem fun_text (X : (hd.heap_1 w.params).In h) : ∃ o fd, h.get? 117 = some o ∧ o.data = .func fd := ⟨_, _, X 117 _ (by rfl), by rfl⟩
theorem fun_callers (X : (hd.heap_1 w.params).In h) : ∃ o fd, h.get? 98 = some o ∧ o.data = .func fd := ⟨_, _, X 98 _ (by rfl), by rfl⟩
theorem fun_told (X : (hd.heap_1 w.params).In h) : ∃ o fd, h.get? 144 = some o ∧ o.data = .func fd := ⟨_, _, X 144 _ (by rfl), by rfl⟩
end
theorem list_ne_dict {prog : Program} {w : World} {K : Type} [DecidableEq K] {knd : KeyKind prog w K} {h : Heap} {a d : Addr} {its : Array Value} {n : Nat} {o : Obj} {kvs : List (K × Value)} (ha : h.get? a = some (listOf its n)) (hd : h.get? d = some o) (ho : o.IsDictOf knd kvs) : a ≠ d :=
  ne_of_objs ha hd fun e => by have c := (congrArg Obj.cls e).trans (isDict_cls ho); injection c with c; exact absurd c (by decide)
theorem cell_ne_dict {prog : Program} {w : World} {K : Type} [DecidableEq K] {knd : KeyKind prog w K} {h : Heap} {a d : Addr} {oc o : Obj} {v : Option Value} {kvs : List (K × Value)} (ha : h.get? a = some oc) (hc : oc.data = .cell v) (hd : h.get? d = some o) (ho : o.IsDictOf knd kvs) : a ≠ d :=
  ne_of_objs ha hd fun e => by
    obtain ⟨_, _, _, hx, _⟩ := ho
    rw [e, hx] at hc; cases hc
theorem told_new {ms : List Nat} {rows : List (List Nat)} {i : Nat} {row : List Nat} (hnd : (rows.map wordOf).Nodup) (h : rows[i]? = some row) : wordOf row ∉ (toldRows ms (rows.take i)).map wordOf := by
  intro hm
  obtain ⟨r, hr, e⟩ := List.mem_map.mp hm
  have hr' : r ∈ rows.take i := (List.mem_filter.mp hr).1
  obtain ⟨j, hj, rfl⟩ := List.mem_take_iff_getElem.mp hr'
  have hi : i < rows.length := (List.getElem?_eq_some_iff.mp h).1
  have hrow := (List.getElem?_eq_some_iff.mp h).2
  have hjl : j < rows.length := by omega
  refine (List.pairwise_iff_getElem.mp hnd) j i (by simpa using hjl) (by simpa using hi) (by omega) ?_
  rw [List.getElem_map, List.getElem_map, hrow]; exact e
theorem told_mem {ms : List Nat} {rows : List (List Nat)} {i : Nat} {r : List Nat} (h : r ∈ toldRows ms (rows.take i)) : r ∈ rows := List.mem_of_mem_take (List.mem_filter.mp h).1
theorem told_le {ms : List Nat} {rows : List (List Nat)} {i : Nat} : (toldRows ms (rows.take i)).length ≤ i := by
  refine Nat.le_trans (List.length_filter_le _ _) ?_
  rw [List.length_take]; omega
theorem merged_two {a b : Str} {x y : Value} (h : a ≠ b) : merged ([] : List (Str × Value)) [(a, x), (b, y)] = [(a, x), (b, y)] := by
  simp [merged, stored, h]
theorem third_facts {i : Nat} (hi : i < 3) : Float64.isInf (Float64.ofFrac (decide (0 + (i : Int) < 0) != decide ((3 : Int) < 0)) (0 + (i : Int)).natAbs (Int.natAbs 3)) = false ∧ HueBits (Float64.ofFrac (decide (0 + (i : Int) < 0) != decide ((3 : Int) < 0)) (0 + (i : Int)).natAbs (Int.natAbs 3)) i := by
  unfold HueBits
  rcases (show i = 0 ∨ i = 1 ∨ i = 2 by omega) with rfl | rfl | rfl <;> exact ⟨by decide +kernel, by decide +kernel⟩
end Mine
end
section
open PySem PySem.W PySem.Calls PyProof.Rows PyProof.Rows.LCg
namespace Mine
set_option maxRecDepth 100000
set_option maxHeartbeats 8000000
noncomputable def LightsIn (get : Addr → Obj → Prop) (vi si : Int) (ys : List Value) (n : Nat) : Prop :=
  ys.length = n ∧ ∀ k, k < n → ∃ a t1 t2 t3, ys[k]? = some (Value.ref a) ∧ get a (lst [.int (oct vi si k 0) t1, .int (oct vi si k 1) t2, .int (oct vi si k 2) t3])
theorem LightsIn.nil {get : Addr → Obj → Prop} {vi si : Int} : LightsIn get vi si [] 0 := ⟨rfl, fun _ h => absurd h (Nat.not_lt_zero _)⟩
theorem LightsIn.mono {get get' : Addr → Obj → Prop} {vi si : Int} {ys : List Value} {n : Nat} (h : LightsIn get vi si ys n) (hg : ∀ a o, get a o → get' a o) : LightsIn get' vi si ys n :=
  ⟨h.1, fun k hk => let ⟨a, t1, t2, t3, e1, e2⟩ := h.2 k hk; ⟨a, t1, t2, t3, e1, hg _ _ e2⟩⟩
theorem LightsIn.snoc {get : Addr → Obj → Prop} {vi si : Int} {ys : List Value} {n : Nat} {a : Addr} {t1 t2 t3 : Tok} (h : LightsIn get vi si ys n) (hg : get a (lst [.int (oct vi si n 0) t1, .int (oct vi si n 1) t2, .int (oct vi si n 2) t3])) :
    LightsIn get vi si (ys ++ [Value.ref a]) (n + 1) := by
  refine ⟨by rw [List.length_append, h.1]; rfl, fun k hk => ?_⟩
  by_cases e : k < n
  · obtain ⟨a', u1, u2, u3, e1, e2⟩ := h.2 k e
    exact ⟨a', u1, u2, u3, by rw [List.getElem?_append_left (by rw [h.1]; exact e)]; exact e1, e2⟩
  · obtain rfl : k = n := by omega
    refine ⟨a, t1, t2, t3, ?_, hg⟩
    rw [List.getElem?_append_right (by rw [h.1]; exact Nat.le_refl _), h.1, Nat.sub_self]; rfl
noncomputable def octs (vi si : Int) (ks : List Nat) : List Value := ks.flatMap fun k => [.int (oct vi si k 0) 0, .int (oct vi si k 1) 0, .int (oct vi si k 2) 0]
theorem octs_length {vi si : Int} {ks : List Nat} : (octs vi si ks).length = 3 * ks.length := by
  unfold octs
  induction ks with
  | nil => rfl
  | cons k r ih => rw [List.flatMap_cons, List.length_append, ih, List.length_cons]; simp only [List.length_cons, List.length_nil]; omega
theorem octs_take_length {vi si : Int} {k p : Nat} (h : p ≤ 3) : ((octs vi si [k]).take p).length = p := by
  rw [List.length_take, octs_length]; simp only [List.length_cons, List.length_nil]; omega
theorem octs_append {vi si : Int} {a b : List Nat} : octs vi si (a ++ b) = octs vi si a ++ octs vi si b := List.flatMap_append
theorem oct_at {vi si : Int} {k p : Nat} {v : Value} {w1 w2 w3 : Tok} (h : [Value.int (oct vi si k 0) w1, .int (oct vi si k 1) w2, .int (oct vi si k 2) w3][p]? = some v) :
    ∃ x t, v = .int x t ∧ (octs vi si [k])[p]? = some (.int x 0) := by
  match p, h with
  | 0, h => exact ⟨_, _, (Option.some.inj h).symm, rfl⟩
  | 1, h => exact ⟨_, _, (Option.some.inj h).symm, rfl⟩
  | 2, h => exact ⟨_, _, (Option.some.inj h).symm, rfl⟩
  | n + 3, h => simp at h
noncomputable def LJ (vi si : Int) (L' : Addr) (oA oB oC : Obj) (i : Nat) (_ : Str → Option Value) (ys : List Value) (news : List (Addr × Obj)) : Prop :=
  i ≤ 3 ∧ ∃ tl, news = (L' + 1 + 1 + 1, oA) :: (L' + 1 + 1, oB) :: (L' + 1, oC) :: tl ∧ LightsIn (fun a o => (a, o) ∈ tl) vi si ys i ∧ ∀ q ∈ tl, q.1 ≠ L' + 1 + 1 + 1
theorem lights_nxt {h₀ : Heap} {L' : Addr} {m : Str → Option Value} {s : Shared} {h4 : Heap} {tk4 : Nat} {I C D p3 : Addr} {oI oC1 oA oB oC : Obj} {u m₂ : Str → Option Value} {ys : List Value} {news : List (Addr × Obj)} {vi si : Int} {i : Nat} {v1 v2 v3 : Tok}
    (F4 : Fr h₀ L' h4 m) (N4 : News h₀ L' h4 ((p3, lst [.int (oct vi si i 0) v1, .int (oct vi si i 1) v2, .int (oct vi si i 2) v3]) :: (I, oI) :: (C, oC1) :: (D, lst ys) :: news))
    (lt4 : ∀ q ∈ (I, oI) :: (C, oC1) :: (D, lst ys) :: news, q.1 ≠ p3)
    (hC2 : NsObj oC1 u) (off : Off3 I C D news) (hJ : LJ vi si L' oA oB oC i m₂ ys news) (hi : i + 1 ≤ 3) :
    Nxt s h₀ L' m I oI C D (fun _ => True) (fun m₂' ys' news' => ys' = ys ∧ LJ vi si L' oA oB oC (i + 1) m₂' (ys ++ [Value.ref p3]) news') { s with heap := h4, toks := tk4 } := by
  obtain ⟨_, tl, rfl, hys, hne⟩ := hJ
  have h2 := off.mem
  refine Nxt.intro F4 (News_pick N4 7 [1, 2, 3, 4, 5, 6, 0]) ((L' + 1 + 1 + 1, oA) :: (L' + 1 + 1, oB) :: (L' + 1, oC) :: (p3, lst [Value.int (oct vi si i 0) v1, .int (oct vi si i 1) v2, .int (oct vi si i 2) v3]) :: tl) hC2 (fun _ h => h) (Off3.of ?_) trivial ⟨rfl, hi, _, rfl, (hys.mono fun a o h => List.mem_cons_of_mem _ h).snoc List.mem_cons_self, all_cons (fun e => lt4 (L' + 1 + 1 + 1, oA) (by k_mem) e.symm) hne⟩
  exact all_cons (h2 _ (.head _)) (all_cons (h2 _ (.tail _ (.head _))) (all_cons (h2 _ (.tail _ (.tail _ (.head _)))) (all_cons ⟨fun e => lt4 (I, oI) (by k_mem) e.symm, fun e => lt4 (C, oC1) (by k_mem) e.symm, fun e => lt4 (D, lst ys) (by k_mem) e.symm⟩ fun q hq => h2 q (.tail _ (.tail _ (.tail _ hq))))))
noncomputable abbrev tmL (FA SA MI dK : Addr) (c : Nat) (tc : Tok) (table row film sign light back plus here word : Option Value) : List (Str × Option Value) :=
  [(Str.ofString "row", row), (Str.ofString "film", film), (Str.ofString "sign", sign), (Str.ofString "light", light), (Str.ofString "back", back), (Str.ofString "plus", plus), (Str.ofString "here", here), (Str.ofString "word", word), (Str.ofString "known", some (.ref dK)), (Str.ofString "table", table), (Str.ofString "mirrored", some (.ref MI)), (Str.ofString "corner", some (.int (c : Nat) tc)), (Str.ofString "second", some (.ref SA)), (Str.ofString "first", some (.ref FA))]
noncomputable abbrev TM (FA SA MI dK : Addr) (c : Nat) (tc : Tok) (table row film sign light back plus here word : Option Value) : Str → Option Value := mapOf (tmL FA SA MI dK c tc table row film sign light back plus here word)
noncomputable def tlNews (T dK L' : Addr) (oT oK oA oB oC : Obj) (FX rest : List (Addr × Obj)) : List (Addr × Obj) := (T, oT) :: (dK, oK) :: (L' + 1 + 1 + 1, oA) :: (L' + 1 + 1, oB) :: (L' + 1, oC) :: (FX ++ rest)
section
variable {I T T' dK L' : Addr} {oT oT' oK oK' oA oB oC : Obj} {FX rest tl : List (Addr × Obj)} {q : Addr × Obj}
theorem mem_fx (h : q ∈ FX) : q ∈ tlNews T dK L' oT oK oA oB oC FX rest := .tail _ (.tail _ (.tail _ (.tail _ (.tail _ (List.mem_append_left _ h)))))
theorem mem_rs (h : q ∈ rest) : q ∈ tlNews T dK L' oT oK oA oB oC FX rest := .tail _ (.tail _ (.tail _ (.tail _ (.tail _ (List.mem_append_right _ h)))))
theorem mem_tT : (T, oT) ∈ tlNews T dK L' oT oK oA oB oC FX rest := .head _
theorem mem_dK : (dK, oK) ∈ tlNews T dK L' oT oK oA oB oC FX rest := .tail _ (.head _)
theorem tl_all {p : Addr × Obj → Prop} (h1 : p (T, oT)) (h2 : p (dK, oK)) (h3 : p (L' + 1 + 1 + 1, oA)) (h4 : p (L' + 1 + 1, oB)) (h5 : p (L' + 1, oC)) (h6 : ∀ q ∈ FX, p q) (h7 : ∀ q ∈ rest, p q) : ∀ q ∈ tlNews T dK L' oT oK oA oB oC FX rest, p q :=
  all_cons h1 (all_cons h2 (all_cons h3 (all_cons h4 (all_cons h5 (all_app h6 h7)))))
theorem tl_off (off : ∀ p ∈ tlNews T dK L' oT oK oA oB oC FX rest, p.1 ≠ I) (hT : T' ≠ I) (ht : ∀ q ∈ tl, q.1 ≠ I) : ∀ p ∈ tlNews T' dK L' oT' oK' oA oB oC FX (tl ++ rest), p.1 ≠ I :=
  tl_all hT (off (dK, oK) mem_dK) (off _ (.tail _ (.tail _ (.head _)))) (off _ (.tail _ (.tail _ (.tail _ (.head _))))) (off _ (.tail _ (.tail _ (.tail _ (.tail _ (.head _)))))) (fun q h => off q (mem_fx h)) (all_app ht fun q h => off q (mem_rs h))
theorem tl_join2 {h₀ h : Heap} {L : Addr} {p a b d c1 c2 c3 : Addr × Obj} (N : News h₀ L h (tl ++ ([a, b] ++ d :: c1 :: c2 :: c3 :: (FX ++ rest)))) (hp : p ∈ tl) : News h₀ L h (p :: a :: b :: d :: c1 :: c2 :: c3 :: (FX ++ (tl ++ rest))) := fun q hq => by
  refine N q ?_
  simp only [List.mem_cons, List.mem_append, List.not_mem_nil, or_false] at hq ⊢
  rcases hq with rfl | hq | hq | hq | hq | hq | hq | hq | hq | hq
  · exact .inl hp
  · exact .inr (.inl (.inl hq))
  · exact .inr (.inl (.inr hq))
  · exact .inr (.inr (.inl hq))
  · exact .inr (.inr (.inr (.inl hq)))
  · exact .inr (.inr (.inr (.inr (.inl hq))))
  · exact .inr (.inr (.inr (.inr (.inr (.inl hq)))))
  · exact .inr (.inr (.inr (.inr (.inr (.inr (.inl hq))))))
  · exact .inl hq
  · exact .inr (.inr (.inr (.inr (.inr (.inr (.inr hq))))))
theorem tl_sub {a b x d : Addr × Obj} {R : Addr} {oR : Obj} {t3 : List (Addr × Obj)} (hR : (R, oR) ∈ t3) : ∀ q ∈ d :: tlNews R dK L' oR oK oA oB oC FX (t3 ++ (a :: b :: rest)), q ∈ t3 ++ (b :: a :: x :: d :: tlNews T dK L' oT oK oA oB oC FX rest) :=
  all_cons (List.mem_append_right _ (by k_mem)) (tl_all (List.mem_append_left _ hR) (List.mem_append_right _ (by k_mem)) (List.mem_append_right _ (by k_mem)) (List.mem_append_right _ (by k_mem)) (List.mem_append_right _ (by k_mem))
    (fun q h => List.mem_append_right _ (.tail _ (.tail _ (.tail _ (.tail _ (mem_fx h)))))) (all_app (fun q h => List.mem_append_left _ h) (all_cons (List.mem_append_right _ (by k_mem)) (all_cons (List.mem_append_right _ (by k_mem)) fun q h => List.mem_append_right _ (.tail _ (.tail _ (.tail _ (.tail _ (mem_rs h)))))))))
theorem tl_lay {h₀ h : Heap} {L RU MI D DT : Addr} {oU oM oD oDT : Obj} {tlU : List (Addr × Obj)} (N : News h₀ L h (tlU ++ (DT, oDT) :: (T, oT) :: (dK, oK) :: (MI, oM) :: (D, oD) :: (L' + 1 + 1 + 1, oA) :: (L' + 1 + 1, oB) :: (L' + 1, oC) :: tl)) (hU : (RU, oU) ∈ tlU) :
    News h₀ L h (tlNews T dK L' oT oK oA oB oC [(RU, oU), (MI, oM), (D, oD)] (tlU ++ tl)) := fun q hq => N q (by
  revert q
  exact tl_all (List.mem_append_right _ (by k_mem)) (List.mem_append_right _ (by k_mem)) (List.mem_append_right _ (by k_mem)) (List.mem_append_right _ (by k_mem)) (List.mem_append_right _ (by k_mem))
    (all_cons (List.mem_append_left _ hU) (all_cons (List.mem_append_right _ (by k_mem)) (all_cons (List.mem_append_right _ (by k_mem)) all_nil))) (all_app (fun q h => List.mem_append_left _ h) fun q h => List.mem_append_right _ (.tail _ (.tail _ (.tail _ (.tail _ (.tail _ (.tail _ (.tail _ (.tail _ h)))))))))
)
end
structure TI (w : World) (gd : Option (List Code)) (outer : List Env) (mean : ExcName → Option Value) (mg mb : Str → Option Value) (s : Shared) (P : Addr) (ps : Array Value) (vi si : Int) (light : Str) (ms : List Nat) (rows : List (List Nat)) (vs ys : List Value) (dK T : Addr) (oK oT : Obj) (rest : List (Addr × Obj)) (i : Nat) (hb : Heap) (s₁ : Shared) : Prop where
  top : ∃ tp lo, Top tp lo mean mg mb hb
  inn : (hd.heap_1 w.params).In hb
  bel : ∃ base, Below (tA 830 8300 gd outer) base outer hb
  bare : AllBare s₁.gens
  os : s₁.os = s.os
  based : ∃ more, Based s.heap hb 97 P (ps ++ more)
  rowsIn : RowsIn (fun a o => (a, o) ∈ rest) vs rows
  lights : LightsIn (fun a o => (a, o) ∈ rest) vi si ys 3
  known : ∃ kvK, oK.IsDictOf (strKind PySem.Challenge.rw_zn0014_01.prog w) kvK ∧ kvK.length ≤ 8 * i ∧ ∀ e ∈ kvK, Entry vi si (fun p o => (p, o) ∈ rest) e
  table : ∃ kvs, oT.IsDictOf (strKind PySem.Challenge.rw_zn0014_01.prog w) kvs ∧ ToldTab (fun a o => (a, o) ∈ rest) light kvs (toldRows ms (rows.take i))
  sysT : (T == sysModules) = false
  neK : T ≠ dK ∧ ∀ q ∈ rest, q.1 ≠ dK
inductive TJ (FA SA MI dK : Addr) (c : Nat) (tc : Tok) (L' : Addr) (oA oB oC : Obj) (FX : List (Addr × Obj)) (K : Addr → Obj → Obj → List (Addr × Obj) → Prop) : (Str → Option Value) → List (Addr × Obj) → Prop
  | mk (T : Addr) (oT oK : Obj) (rest : List (Addr × Obj)) (v1 v2 v3 v4 v5 v6 v7 v8 : Option Value) (t : K T oT oK rest) : TJ FA SA MI dK c tc L' oA oB oC FX K (TM FA SA MI dK c tc (some (.ref T)) v1 v2 v3 v4 v5 v6 v7 v8) (tlNews T dK L' oT oK oA oB oC FX rest)
noncomputable def FJ (NW : List (Addr × Obj)) (vi si : Int) (row : List Nat) (q : Nat) (_ : Str → Option Value) (ys : List Value) (nw : List (Addr × Obj)) : Prop := q ≤ 5 ∧ nw = NW ∧ ys.map nt = octs vi si (row.take q)
noncomputable def FJ2 (NW : List (Addr × Obj)) (vi si : Int) (row : List Nat) (q kx p : Nat) (_ : Str → Option Value) (ys : List Value) (nw : List (Addr × Obj)) : Prop := p ≤ 3 ∧ nw = NW ∧ ys.map nt = octs vi si (row.take q) ++ (octs vi si [kx]).take p
theorem FJ2.len {NW : List (Addr × Obj)} {vi si : Int} {row : List Nat} {q kx p : Nat} {m : Str → Option Value} {ys : List Value} {nw : List (Addr × Obj)} (hj : FJ2 NW vi si row q kx p m ys nw) (hq : q < 5) : ys.length ≤ sizeLine := by
  obtain ⟨hp3, _, h⟩ := hj
  have l1 := congrArg List.length h
  rw [List.length_map, List.length_append, octs_length, octs_take_length (by omega)] at l1
  rw [l1, sizeLine_eq]
  have := List.length_take_le q row
  omega
noncomputable def ToldPost (w : World) (vi si : Int) (c : Nat) (ms : List Nat) (rows : List (List Nat)) (r : Value) (tl : List (Addr × Obj)) : Prop :=
  ∃ (R : Addr) (oR : Obj) (kvs : List (Str × Value)), r = .ref R ∧ (R, oR) ∈ tl ∧ (R == sysModules) = false ∧ oR.IsDictOf (strKind PySem.Challenge.rw_zn0014_01.prog w) kvs ∧
       ToldTab (fun a o => (a, o) ∈ tl) (lt vi si c) kvs (toldRows ms rows)
section
variable {prog : Program} {w : World} {A : Around} {s : Shared} {h₀ : Heap} {L : Addr} {m : Str → Option Value} {E : Value → Shared → Prop}
theorem bytes_to {l : Addr} {vs : List Value} {ns : List Int} {b : Array UInt8} {Q : Value → Shared → Prop} {e : Addr × Obj} {news : List (Addr × Obj)} (F : Fr h₀ L s.heap m) (N : News h₀ L s.heap (e :: news)) (hl : s.heap.IsList l vs.toArray) (hi : vs.map nt = ns.map (fun x => Value.int x 0)) (hr : ∀ n ∈ ns, 0 ≤ n ∧ n < 256) (hz : ns.length ≤ sizeLine) (hb : (ns.map fun n => n.toNat.toUInt8).toArray = b) (hh : A.handled = none)
    (h : ∀ h' t k, Fr h₀ L h' m → News h₀ L h' news → Q (.bytes b t) { s with heap := h', toks := k }) : wpAny (model prog w) A (call (.type "bytes") [.ref l]) Q E s :=
  bytes_K F N hl (ints_of_nt hi) hr (by have e := congrArg List.length hi; rw [List.length_map, List.length_map] at e; rw [e]; exact hz) hh fun h' t k F N _ => hb ▸ h h' t k F fun q hq => N q (.tail _ hq)
end
theorem letter_at {row : List Nat} {q : Nat} (hq : q < row.length) : some (Value.str ⟨#[letter (row.getD q 0)]⟩ 0) = (row.map fun k => Value.str ⟨#[letter k]⟩ 0)[q]? := by
  rw [List.getElem?_map, List.getElem?_eq_getElem hq, List.getD_eq_getElem?_getD, List.getElem?_eq_getElem hq]
  rfl
theorem take_getD {row : List Nat} {q : Nat} (hq : q < row.length) : row.take (q + 1) = row.take q ++ [row.getD q 0] := by
  rw [List.take_add_one, List.getD_eq_getElem?_getD, List.getElem?_eq_getElem hq]; rfl
theorem rev3 {vi si : Int} {k : Nat} : (#[b8 (oct vi si k 0), b8 (oct vi si k 1), b8 (oct vi si k 2)] : Array UInt8).reverse = #[b8 (oct vi si k 2), b8 (oct vi si k 1), b8 (oct vi si k 0)] := by rw [List.reverse_toArray]; rfl
theorem three_subs {m0 m1 m2 : Nat} (r0 : m0 < 4) (r1 : m1 < 3) (r2 : m2 < 2) : ((3 : Int) - (m0 : Nat)) = ((3 - m0 : Nat) : Int) ∧ ((2 : Int) - (m1 : Nat)) = ((2 - m1 : Nat) : Int) ∧ ((1 : Int) - (m2 : Nat)) = ((1 - m2 : Nat) : Int) := by omega
section
local macro_rules | `(tactic| walk_at "exec Assign cons ListComp") => `(tactic| refine Stop.of ?_)
local macro_rules | `(tactic| walk_at "subscriptTail Name Name ref int") => `(tactic| refine Stop.of ?_)
local macro_rules | `(tactic| walk_at "eval ListComp") => `(tactic| refine Stop.of ?_)
local macro_rules | `(tactic| walk_at "call builtin:str.join") => `(tactic| refine Stop.of ?_)
local macro_rules | `(tactic| walk_at "KdnMade") => `(tactic| refine Stop.of ?_)
local macro_rules | `(tactic| walk_at "call type:bytes") => `(tactic| refine Stop.of ?_)
local macro_rules | `(tactic| walk_at "exec For") => `(tactic| refine Stop.of ?_)
local macro_rules | `(tactic| walk_at "exec For Name Name cons nil") => `(tactic| refine Stop.of ?_)
local macro_rules | `(tactic| walk_at "exec For Name Call cons nil") => `(tactic| refine Stop.of ?_)
local macro_rules | `(tactic| walk_at "call ref") => `(tactic| refine stopAt [122, 139, 132, 117] (by decide) ?_)
local macro_rules | `(tactic| walk_at "none 3") => `(tactic| skip)
theorem c_told {w : World} {c p0 p1 p2 p3 m0 m1 m2 : Nat} {vi si : Int} {sb vb : UInt64} {tc ts tv : Tok} {FA SA P : Addr} {ps : Array Value} (hc : Wheel c) (q0 : p0 < 4) (q1 : p1 < 3) (q2 : p2 < 2) (q3 : p3 < 1) (r0 : m0 < 4) (r1 : m1 < 3) (r2 : m2 < 2) (hs : QBits sb si) (hv : QBits vb vi)
   (hrows : ∀ row ∈ undone c [p0, p1, p2, p3], RowOk c [p0, p1, p2, p3] [3 - m0, 2 - m1, 1 - m2, 0] row) (hnd : ((undone c [p0, p1, p2, p3]).map wordOf).Nodup) (hlen : (undone c [p0, p1, p2, p3]).length ≤ 16) :
   ConG w 830 8300 144 [.ref FA, .ref SA, .int (c : Nat) tc, .float sb ts, .float vb tv] 97 P ps
     (fun h => (∃ t0 t1 t2 t3 n, h.get? FA = some ⟨.type "list", none, .seq #[.int p0 t0, .int p1 t1, .int p2 t2, .int p3 t3] n, #[]⟩) ∧ ∃ t0 t1 t2 v n, h.get? SA = some ⟨.type "list", none, .seq #[.int m0 t0, .int m1 t1, .int m2 t2, v] n, #[]⟩)
     (ToldPost w vi si c [3 - m0, 2 - m1, 1 - m2, 0] (undone c [p0, p1, p2, p3])) := by
  w_top off
  intro gd outer base s tp lo mean mg mb Q E B X T0 hcode htab hst hbare hpre hret
  obtain ⟨⟨f0, f1, f2, f3, fn, hFA⟩, g0, g1, g2, gv, gn, hSA⟩ := hpre
  revert X
  k_fill
  intro X
  refine' enterCG (binds := [(Str.ofString "first", .ref FA), (Str.ofString "second", .ref SA), (Str.ofString "corner", .int (c : Nat) tc), (Str.ofString "share", .float sb ts), (Str.ofString "level", .float vb tv)]) B X T0 hret ?k6 ?k7 ?k8 ?k9 ?kL ?kD ?_ ?c2 ?c3 ?c4
  case k6 => k_dflt k_is
  case k7 => k_dflt k_is
  case k8 => exact (by decide : (830:Nat) < recursionLimit)
  case k9 => exact BindsTo.of_eq rfl
  case kL => exact rfl
  case kD => decide +kernel
  case c2 => exact rfl
  case c3 => exact rfl
  case c4 => exact rfl
  intro L' h' tk0 cells F N Y
  clear hret
  refine hideS fun R0 hR0 => ?_
  refine hideP fun G hG => ?_
  obtain ⟨oA, oB, oC, rfl, dA, dB, dC⟩ := CellsAre.three Y
  refine hG ?_
  clear hG G
  replace dA : oA.data = .cell none := dA
  replace dB : oB.data = .cell (some (.float vb tv)) := dB
  replace dC : oC.data = .cell (some (.float sb ts)) := dC
  replace F : Fr s.heap L' h' (fun y => if y = Str.ofString "corner" then some (.int (c : Nat) tc) else if y = Str.ofString "second" then some (.ref SA) else if y = Str.ofString "first" then some (.ref FA) else none) := F
  clear Y
  refine wpS_execs_any ?_
  k_steps
  unfold Stop
  refine wpAny_Assign_Name ?_ (by rfl)
  refine hide fun R1 hR1 => ?_
  obtain ⟨m1', hm1⟩ : ∃ m, m = (fun y => if y = Str.ofString "corner" then some (Value.int (c : Nat) tc) else if y = Str.ofString "second" then some (.ref SA) else if y = Str.ofString "first" then some (.ref FA) else none) := ⟨_, rfl⟩
  replace F := show Fr s.heap L' h' m1' from hm1 ▸ F
  k_dflt (refine lcE (L := L') (m := m1') (h₀ := s.heap) (by rfl) (by decide) (by rfl) (by decide) (by rfl) (by intro _; rfl) ?_)
  k_steps
  rename_i hr1 hF1 hN1 hk1
  refine it_range (n := 3) rfl (by k_asm) (by k_asm) hr1 (small_one (by decide) (by decide) (by decide) (by decide)) (by rfl) fun I1 gI1 St1 src1 F1 N1 off1 => ?_
  refine ⟨I1, _, _, _, _, _, _, LJ vi si L' oA oB oC, rfl, rfl, src1, F1, N1, off1, trivial, ⟨by decide, [], rfl, LightsIn.nil, all_nil⟩, ?_⟩
  refine ⟨⟨?len1, ?step1⟩, ?fin1⟩
  case len1 =>
    rintro i m₂ ys nw ⟨h3, tl, rfl, h, _⟩
    rw [h.1, sizeLine_eq]; omega
  case step1 =>
    intro C D i v m₂ ys nw oI oC1 h2 tk2 hi hP hJ hC F2 N2 off2 ne2 _
    refine hideP fun G hG => ?_
    obtain ⟨ti, hvi⟩ := hP
    have hi3 : i < 3 := hi
    obtain ⟨hue1, hue2⟩ := third_facts hi3
    obtain ⟨u, hC2, hu⟩ : ∃ u : Str → Option Value, NsObj oC1 u ∧ u (Str.ofString "hue") = some (.int (0 + (i : Int)) ti) := ⟨_, hC, congrArg some hvi⟩
    obtain ⟨tl, hnw, _⟩ := hJ.2
    replace N2 : News s.heap L' h2 ((I1, oI) :: (C, oC1) :: (D, lst ys) :: (L' + 1 + 1 + 1, oA) :: (L' + 1 + 1, oB) :: (L' + 1, oC) :: tl) := hnw ▸ N2
    refine hG ?_
    clear hG G hC hvi
    refine tests_go ?_
    refine hide fun R2 hR2 => ?_
    k_steps
    unfold Stop
    refine' useCon (c_painted hue2 hs hv) ?kB ?kF ?kX ?kN ?kT rfl rfl ?kd ?ku ?kp ?_
    case kB => k_asm
    case kF => k_asm
    case kX => k_asm
    case kN => k_asm
    case kT => k_asm
    case kd => decide
    case ku => decide
    case kp => trivial
    rintro r tl3 h4 tk4 F4 N4 lt4 st4 ⟨p3, v1, v2, v3, rfl, rfl⟩
    k_steps
    refine hR2 _ _ ?_
    subst hnw
    exact lights_nxt F4 N4 (fun q hq => lt4 q hq _ (.head _)) hC2 off2 hJ hi3
  case fin1 =>
    intro m₂ ys nw hJ _ D h3 tk3 F3 N3 off3
    refine hR1 _ _ ?_
    clear hR1 R1
    refine hideP fun G hG => ?_
    obtain ⟨_, tl, hnw, hys, hne⟩ := hJ
    replace N3 : News s.heap L' h3 ([(D, lst ys)] ++ (L' + 1 + 1 + 1, oA) :: (L' + 1 + 1, oB) :: (L' + 1, oC) :: tl) := hnw ▸ N3
    have off3A : D ≠ L' + 1 + 1 + 1 := fun e => off3 (L' + 1 + 1 + 1, oA) (hnw ▸ .head _) e.symm
    replace F3 := show Fr s.heap L' h3 (fun y => if y = Str.ofString "corner" then some (Value.int (c : Nat) tc) else if y = Str.ofString "second" then some (.ref SA) else if y = Str.ofString "first" then some (.ref FA) else none) from hm1 ▸ F3
    refine hG ?_
    clear hG G hm1 off3 hnw F1 N1 off1 src1
    refine store_cell F3 N3 ?c1 ?c2 dA (by rfl) (by rfl) (by rfl) ?_
    case c1 => exact all_cons off3A all_nil
    case c2 => exact all_cons (Nat.ne_of_lt (Nat.lt_succ_self _)) (all_cons (Nat.ne_of_lt (Nat.lt_succ_of_lt (Nat.lt_succ_self _))) hne)
    intro h4 oA4 F4 N4 dA4
    replace N4 := show News s.heap L' h4 ((D, lst ys) :: (L' + 1 + 1 + 1, oA4) :: (L' + 1 + 1, oB) :: (L' + 1, oC) :: tl) from N4
    clear N3 F3
    refine wpS_execs_any ?_
    have gSA := F4.keep _ _ hSA
    k_steps
    dsimp only
    refine tail_any (PySem.IsL.isList gSA).typeIs slot_list_getitem.lookup (wpAny_getItem_list (PySem.IsL.isList gSA) (by decide) (by decide) (show _ = some (Value.int ((m0 : Nat) : Int) g0) from rfl) ?_) (by with_unfolding_all rfl)
    k_steps
    try dsimp only
    refine tail_any (PySem.IsL.isList gSA).typeIs slot_list_getitem.lookup (wpAny_getItem_list (PySem.IsL.isList gSA) (by decide) (by decide) (show _ = some (Value.int ((m1 : Nat) : Int) g1) from rfl) ?_) (by with_unfolding_all rfl)
    k_steps
    try dsimp only
    refine tail_any (PySem.IsL.isList gSA).typeIs slot_list_getitem.lookup (wpAny_getItem_list (PySem.IsL.isList gSA) (by decide) (by decide) (show _ = some (Value.int ((m2 : Nat) : Int) g2) from rfl) ?_) (by with_unfolding_all rfl)
    k_steps
    refine wpS_execs_any ?_
    k_steps
    refine wpS_execs_cons (wpS_For ?_)
    k_steps
    unfold Stop
    rename_i MI hMI hMI2 l1M dK hdK oK sysK hsK fsK hiK fiK l1K dT hdT oT sysT hsT fsT hiT fiT l1T DT hDT l1DT hz1 hz2 hz3 F5 N5
    refine hide fun R2 hR2 => ?_
    refine' useCon (c_undone hc q0 q1 q2 q3) ?kB ?kF ?kX ?kN ?kT rfl rfl ?kd ?ku ?kp ?_
    case kB => k_asm
    case kF => k_asm
    case kX => k_asm
    case kN => k_asm
    case kT => k_asm
    case kd => decide
    case ku => decide
    case kp => exact ⟨_, _, _, _, _, F5.keep _ _ hFA⟩
    intro r tlU h6 tk6 F6 N6 lt6 st6 hpU
    refine hideP fun G hG => ?_
    obtain ⟨RU, vs, nU, hrU, hRU, hrv⟩ := hpU
    have eM := three_subs r0 r1 r2
    rw [eM.1, eM.2.1, eM.2.2] at N6
    obtain ⟨u0, u1, u2, u3, N6⟩ : ∃ u0 u1 u2 u3, News s.heap L' h6 (tlU ++ (DT, tupO #[.ref dK, .ref dT]) :: (dT, oT) :: (dK, oK) :: (MI, listOf #[.int ((3 - m0 : Nat) : Int) u0, .int ((2 - m1 : Nat) : Int) u1, .int ((1 - m2 : Nat) : Int) u2, .int 0 u3] 0) :: (D, lst ys) :: (L' + 1 + 1 + 1, oA4) :: (L' + 1 + 1, oB) :: (L' + 1, oC) :: tl) := ⟨_, _, _, _, N6⟩
    have hvl : vs.length = (undone c [p0, p1, p2, p3]).length := hrv.1
    replace F6 := show Fr s.heap L' h6 (TM FA SA MI dK c tc (some (.ref dT)) none none none none none none none none) from fr_nones [Str.ofString "row", Str.ofString "film", Str.ofString "sign", Str.ofString "light", Str.ofString "back", Str.ofString "plus", Str.ofString "here", Str.ofString "word"] (l := [(Str.ofString "known", some (.ref dK)), (Str.ofString "table", some (.ref dT)), (Str.ofString "mirrored", some (.ref MI)), (Str.ofString "corner", some (.int (c : Nat) tc)), (Str.ofString "second", some (.ref SA)), (Str.ofString "first", some (.ref FA))]) F6 rfl rfl
    have ltK : ∀ q ∈ tl, q.1 ≠ dK := fun q hq => Nat.ne_of_lt (allLt_mem l1K.2.2.2.2.2 q hq)
    have ltU : ∀ q ∈ tlU, q.1 ≠ dK := fun q hq e => lt6 (dK, oK) (by k_mem) q hq e.symm
    obtain ⟨FX, mRU, mMI, mD, fxD, N7⟩ : ∃ FX : List (Addr × Obj), (RU, listOf vs.toArray nU) ∈ FX ∧ (MI, listOf #[.int ((3 - m0 : Nat) : Int) u0, .int ((2 - m1 : Nat) : Int) u1, .int ((1 - m2 : Nat) : Int) u2, .int 0 u3] 0) ∈ FX ∧ (D, lst ys) ∈ FX ∧ (∀ q ∈ FX, ∀ (h : Heap) (a : Addr) (o : Obj) (kvs : List (Str × Value)), h.get? q.1 = some q.2 → h.get? a = some o → o.IsDictOf (strKind PySem.Challenge.rw_zn0014_01.prog w) kvs → q.1 ≠ a) ∧ News s.heap L' h6 (tlNews dT dK L' oT oK oA4 oB oC FX (tlU ++ tl)) :=
      ⟨_, .head _, .tail _ (.head _), .tail _ (.tail _ (.head _)), all_cons (fun h a o kvs g1 g2 g3 => list_ne_dict g1 g2 g3) (all_cons (fun h a o kvs g1 g2 g3 => list_ne_dict g1 g2 g3) (all_cons (fun h a o kvs g1 g2 g3 => list_ne_dict g1 g2 g3) all_nil)), tl_lay N6 hRU⟩
    refine hG ?_
    clear hG G N6 lt6 st6 F5 N5 hRU
    subst hrU
    refine hR2 _ _ ?_
    clear hR2 R2
    k_steps
    refine for_listE (nl := nU) (its := vs.toArray) (news := tlNews dT dK L' oT oK oA4 oB oC FX (tlU ++ tl)) (fun i hb s₁ m news => TJ FA SA MI dK c tc L' oA4 oB oC FX (fun T oT oK rest => TI w gd outer mean mg mb s P ps vi si (lt vi si c) [3 - m0, 2 - m1, 1 - m2, 0] (undone c [p0, p1, p2, p3]) vs ys dK T oK oT rest i hb s₁) m news) ?stab ?hJl (by rfl) (by rfl) (by rfl) (by rfl) F6 N7 ?j0 ?step ?done
    case stab =>
      rintro i hb s₁ m news h tk ⟨T, oT, oK, rest, v1, v2, v3, v4, v5, v6, v7, v8, t⟩
      exact ⟨T, oT, oK, rest, v1, v2, v3, v4, v5, v6, v7, v8, ⟨t.top, t.inn, t.bel, t.bare, t.os, t.based, t.rowsIn, t.lights, t.known, t.table, t.sysT, t.neK⟩⟩
    case hJl =>
      rintro i hb s₁ m news ⟨T, oT, oK, rest, v1, v2, v3, v4, v5, v6, v7, v8, t⟩
      exact mem_fx mRU
    case j0 =>
      refine ⟨dT, oT, oK, tlU ++ tl, none, none, none, none, none, none, none, none, ⟨⟨_, _, T0⟩, X, ⟨_, B⟩, hbare, rfl, ⟨#[], ?_⟩, hrv.mono fun a o h => List.mem_append_left _ h, hys.mono fun a o h => List.mem_append_right _ h, ⟨[], hsK, Nat.zero_le _, fun _ h => by cases h⟩, ⟨[], hsT, by simpa [toldRows] using ToldTab.nil⟩, sysT, Nat.ne_of_gt l1T.1, all_app ltU ltK⟩⟩
      rw [show ps ++ #[] = ps by simp]; exact .start hcode htab hst
    case done =>
      rintro hb m₁ news₁ s₁ ⟨T, oT', oK', rest, v1, v2, v3, v4, v5, v6, v7, v8, t⟩ F7 N7
      refine hideP fun G hG => ?_
      obtain ⟨kvs, hoT', htb⟩ := t.table
      obtain ⟨more, Bs⟩ := t.based
      rw [show (undone c [p0, p1, p2, p3]).take vs.toArray.size = undone c [p0, p1, p2, p3] by rw [List.size_toArray, hvl, List.take_length]] at htb
      obtain ⟨tp', lo', T7⟩ := t.top
      obtain ⟨base', B7⟩ := t.bel
      have X7 := t.inn
      have F7c := F7
      refine hG ?_
      clear hG G
      dsimp only
      refine wpS_of ?_
      k_steps
      exact hR0 _ _ ⟨hb, L', _, _, _, more, Bs, F7c, N7, fun _ h => h, t.bare, t.os, T, oT', kvs, rfl, mem_tT, t.sysT, hoT', htb.mono fun a o h => mem_rs h⟩
    case step =>
      clear N7 F6
      intro i v hb m₁ news₁ I oI s₁ hv' hJ F7 N7 off7
      refine hideS fun RQ hRQ => ?_
      refine hideP fun G hG => ?_
      obtain ⟨T, oT', oK', rest, v1, v2, v3, v4, v5, v6, v7, v8, t⟩ := hJ
      obtain ⟨row, hrow⟩ : ∃ row, (undone c [p0, p1, p2, p3])[i]? = some row := by
        have : i < (undone c [p0, p1, p2, p3]).length := by rw [← hvl]; simpa using (Array.getElem?_eq_some_iff.mp hv').1
        exact ⟨_, List.getElem?_eq_getElem this⟩
      have hi16 : i < 16 := Nat.lt_of_lt_of_le (List.getElem?_eq_some_iff.mp hrow).1 hlen
      obtain ⟨ra, xs, nx, hra1, hra, hxs⟩ := t.rowsIn.2 i v row (by simpa using hv') hrow
      obtain ⟨hrl, hrw, hj1, hj2⟩ := hrows row (List.mem_of_getElem? hrow)
      obtain ⟨top, X7, bel, bare7, os7, based, rin, lights, known, table, sysT7, neT7, neK7⟩ := t
      obtain ⟨tp', lo', T7⟩ := top
      obtain ⟨base', B7⟩ := bel
      have hxl : xs.length = row.length := len_nums hxs
      replace F7 : Fr hb L' s₁.heap (TM FA SA MI dK c tc (some (Value.ref T)) (some (.ref ra)) v2 v3 v4 v5 v6 v7 v8) := fr_set (hra1 ▸ F7) rfl rfl
      obtain ⟨NY, hNY, mR, mF⟩ : ∃ NY, NY = (I, oI) :: (T, oT') :: (dK, oK') :: (L' + 1 + 1, oB) :: (L' + 1, oC) :: (FX ++ rest) ∧ (∀ q ∈ rest, q ∈ NY) ∧ (∀ q ∈ FX, q ∈ NY) := ⟨_, rfl, fun q h => .tail _ (.tail _ (.tail _ (.tail _ (.tail _ (List.mem_append_right _ h))))), fun q h => .tail _ (.tail _ (.tail _ (.tail _ (.tail _ (List.mem_append_left _ h)))))⟩
      replace N7 := show News hb L' s₁.heap ((L' + 1 + 1 + 1, oA4) :: NY) from hNY ▸ News_pick (show News hb L' s₁.heap ((I, oI) :: (T, oT') :: (dK, oK') :: (L' + 1 + 1 + 1, oA4) :: (L' + 1 + 1, oB) :: (L' + 1, oC) :: (FX ++ rest)) from N7) 6 [3, 0, 1, 2, 4, 5]
      refine hG ?_
      clear hG G hra1
      refine wpS_execs_any ?_
      k_steps
      unfold Stop
      refine hide fun RF hRF => ?_
      k_dflt (refine lcE2 (L := L') (m := TM FA SA MI dK c tc (some (Value.ref T)) (some (.ref ra)) v2 v3 v4 v5 v6 v7 v8) (h₀ := hb) (by rfl) (by decide) (by rfl) (by decide) (by rfl) (by intro _; rfl) (by intro _ _; rfl) ?_)
      k_steps
      refine it_list rfl F7 N7 (.inr ⟨listOf xs.toArray nx, .tail _ (mR _ hra), rfl, _, rfl⟩) fun I1 gI St1 srcI F8 N8 off8 => ?_
      refine ⟨I1, _, _, _, _, _, _, FJ ((L' + 1 + 1 + 1, oA4) :: NY) vi si row, rfl, rfl, srcI, F8, N8, off8, .inr ⟨listOf xs.toArray nx, .tail _ (mR _ hra), rfl, _, rfl⟩, ⟨by decide, rfl, rfl⟩, ?_⟩
      refine ⟨?_, ?_⟩
      · intro C D1 q v m₂ ys' news oI1 oC1 h9 tk9 hq hqv hJ hC F9 N9 off9 ne9 hS9
        refine hideP fun G hG => ?_
        have hq5' : q < 5 := by rw [← hrl, ← hxl]; simpa using hq
        have hqr : q < row.length := by rw [hrl]; exact hq5'
        obtain ⟨ux, hx⟩ := num_at hxs hqr
        have hvq := Option.some.inj ((show xs[q]? = some v by simpa using hqv).symm.trans hx)
        have hk : Wheel (row.getD q 0) := hrw _ (getD_mem hqr)
        have htake := take_getD hqr
        obtain ⟨u, hC9, hu⟩ : ∃ u : Str → Option Value, NsObj oC1 u ∧ u (Str.ofString "k") = some (.int (row.getD q 0 : Nat) ux) := ⟨_, hC, congrArg some hvq⟩
        clear hvq hqv hC
        generalize row.getD q 0 = kx at hx hk htake hu
        have hk3 : kx < 3 := by rcases hk with rfl | rfl | rfl <;> decide
        obtain ⟨al, w1, w2, w3, hal, hlm⟩ := lights.2 kx hk3
        replace N9 : News hb L' h9 ((I1, oI1) :: (C, oC1) :: (D1, lst ys') :: (L' + 1 + 1 + 1, oA4) :: NY) := hJ.2.1 ▸ N9
        replace off9 : Off3 I1 C D1 ((L' + 1 + 1 + 1, oA4) :: NY) := hJ.2.1 ▸ off9
        have hS : SrcAt hb ra xs.toArray ((L' + 1 + 1 + 1, oA4) :: NY) := hJ.2.1 ▸ hS9
        have hlmY := mR _ hlm
        have gD := (N9 (D, lst ys) (.tail _ (.tail _ (.tail _ (.tail _ (mF _ mD)))))).1
        refine hG ?_
        clear hG G hS9 N8 F8
        refine tests_go ?_
        k_steps
        refine tail_any (PySem.IsL.isList gD).typeIs slot_list_getitem.lookup (wpAny_getItem_list (PySem.IsL.isList gD) (by omega) (by omega) (at_nat hal) ?_) (by with_unfolding_all rfl)
        k_steps
        refine it_list rfl F9 N9 (.inr ⟨lst [.int (oct vi si kx 0) w1, .int (oct vi si kx 1) w2, .int (oct vi si kx 2) w3], .tail _ (.tail _ (.tail _ (.tail _ hlmY))), rfl, _, rfl⟩) fun I2 g2 St2 src2 F10 N10 off10 => ?_
        refine' lc_in (FJ2 ((I1, oI1) :: (L' + 1 + 1 + 1, oA4) :: NY) vi si row q kx) src2 (by rfl) (by rfl) ⟨fun hm => (off9.mem _ (.tail _ hlmY)).2.1 (List.mem_singleton.mp hm).symm, fun hm => (off9.mem _ (.tail _ hlmY)).2.2 (List.mem_singleton.mp hm).symm⟩ (fun p m₃ ys2 nw h => h.len hq5') F10 hC9 N10 off10 off9 ne9 (.inr ⟨lst [.int (oct vi si kx 0) w1, .int (oct vi si kx 1) w2, .int (oct vi si kx 2) w3], .tail _ (.tail _ hlmY), rfl, _, rfl⟩) ⟨by decide, rfl, by simpa using hJ.2.2⟩ ?stepI ?doneI
        case doneI =>
          intro m₃ ys2 nw oC' h22 tk22 hJ' hC22 F22 N22 off22 ne22 _
          exact ⟨rfl, Nxt_done F22 (hJ'.2.1 ▸ N22) hC22 (hJ'.2.1 ▸ off22) (fun x hx => (off9.mem x hx).1) hS ⟨hq5', rfl, by rw [hJ'.2.2, htake, octs_append]; rfl⟩⟩
        case stepI =>
          intro p v m₃ ys2 nw oI5 oC' h22 tk22 hp hpv hJ' hC' F22 N22 off22 ne22 hS22
          refine hideP fun G hG => ?_
          obtain ⟨x, tx, hvx, hx22⟩ := oct_at (by simpa using hpv)
          obtain ⟨u', hC22, hu1⟩ : ∃ u : Str → Option Value, NsObj oC' u ∧ u (Str.ofString "octet") = some (.int x tx) := ⟨_, hC', congrArg some hvx⟩
          replace N22 : News hb L' h22 ((I2, oI5) :: (C, oC') :: (D1, lst ys2) :: (I1, oI1) :: (L' + 1 + 1 + 1, oA4) :: NY) := hJ'.2.1 ▸ N22
          refine hG ?_
          clear hG G hvx hC' hpv
          refine tests_go ?_
          k_steps
          refine Nxt.intro F22 N22 _ hC22 (fun x hx => hx) (hJ'.2.1 ▸ off22) (hJ'.2.1 ▸ hS22) ⟨rfl, (show p < 3 by simpa using hp), rfl, ?_⟩
          rw [List.take_add_one, hx22, List.map_append, hJ'.2.2, List.append_assoc]; rfl
      · intro m₂ ys' news hJ _ D1 h9 tk9 F9 N9 off9
        refine hRF _ _ ?_
        clear hRF RF
        refine hideP fun G hG => ?_
        obtain ⟨_, hnews, hys'⟩ := hJ
        obtain ⟨k0, k1, k2, k3, k4, rfl⟩ := five_of hrl
        have hxs5 : xs.toArray.size = 5 := by rw [List.size_toArray, hxl]; rfl
        rw [hxs5] at hys'
        have z := oct_facts (quarter_of hv) (quarter_of hs)
        have w0 : Wheel k0 := hrw _ (.head _)
        have w1 : Wheel k1 := hrw _ (.tail _ (.head _))
        have w2 : Wheel k2 := hrw _ (.tail _ (.tail _ (.head _)))
        have w3 : Wheel k3 := hrw _ (.tail _ (.tail _ (.tail _ (.head _))))
        have w4 : Wheel k4 := hrw _ (.tail _ (.tail _ (.tail _ (.tail _ (.head _)))))
        have gL := PySem.IsL.isList (N9 _ List.mem_cons_self).1
        replace N9 : News hb L' h9 ((D1, lst ys') :: (L' + 1 + 1 + 1, oA4) :: NY) := hnews ▸ N9
        replace N9 : News hb L' h9 ((D1, lst ys') :: (I, oI) :: tlNews T dK L' oT' oK' oA4 oB oC FX rest) := News_pick (show News hb L' h9 ((D1, lst ys') :: (L' + 1 + 1 + 1, oA4) :: (I, oI) :: (T, oT') :: (dK, oK') :: (L' + 1 + 1, oB) :: (L' + 1, oC) :: (FX ++ rest)) from hNY ▸ N9) 7 [0, 2, 3, 4, 1, 5, 6]
        have kn := known
        obtain ⟨kvK, hoK, hkl, hke⟩ := kn
        have ndK : I ≠ dK := fun e => off7 (dK, oK') mem_dK e.symm
        have hJ2 : (joinGo [3 - m0, 2 - m1, 1 - m2, 0] 1 [2 - k4, 2 - k3, 2 - k2, 2 - k1, 2 - k0]).1 ≠ 0 → joinGo [3 - m0, 2 - m1, 1 - m2, 0] 1 [2 - k4, 2 - k3, 2 - k2, 2 - k1, 2 - k0] = (signR [k0, k1, k2, k3, k4], some (2 - c)) := hj2
        have hsnoc := told_snoc (ms := [3 - m0, 2 - m1, 1 - m2, 0]) hrow
        rw [show joinGo [3 - m0, 2 - m1, 1 - m2, 0] 1 (revRow [k0, k1, k2, k3, k4]) = joinGo [3 - m0, 2 - m1, 1 - m2, 0] 1 [2 - k4, 2 - k3, 2 - k2, 2 - k1, 2 - k0] from rfl] at hsnoc
        have n1 : ∀ p ∈ [(I, oI), (T, oT')], p.1 ≠ dK := all_cons ndK (all_cons neT7 all_nil)
        have gFA : hb.get? FA = some ⟨.type "list", none, .seq #[.int p0 f0, .int p1 f1, .int p2 f2, .int p3 f3] fn, #[]⟩ := by
          obtain ⟨more, Bs⟩ := based
          have hne : FA ≠ P := fun e => by rw [e, htab.2] at hFA; cases hFA
          exact (Bs.same.2 _ hne).trans hFA
        refine hG ?_
        clear hG G hnews hj2 F8 N8 off8 srcI hNY mR mF N7
        k_steps
        unfold Stop
        refine bytes_to F9 N9 gL (ns := octN vi si [k0, k1, k2, k3, k4]) hys' (octN_ok z.1) (by rw [sizeLine_eq]; exact (by decide : 15 ≤ 16777216)) film_of (by rfl) fun h10 t10 tk10 F10 N10 => ?_
        clear F9 N9 off9 hys' gL
        k_steps
        rename_i h11 F11 N11
        replace F11 : Fr hb L' h11 (TM FA SA MI dK c tc (some (Value.ref T)) (some (Value.ref ra)) (some (.bytes (film5 vi si k0 k1 k2 k3 k4) t10)) v3 v4 v5 v6 v7 v8) := fr_set F11 rfl rfl
        refine wpS_execs_cons (wpS_Assign_Tuple (wpS_Call_ ?_) rfl rfl)
        k_steps
        refine wpS_callDef (wpS_args_cons (wpS_Call_ ?_))
        k_steps
        refine wpS_callDef (wpS_args_cons (wpS_of ?_))
        k_steps
        refine wpS_of ?_
        k_steps
        refine ⟨fun_swap (X7.keeps F11.keep), ?_⟩
        refine hideS fun R1 hR1 => ?_
        refine useConS (c_swap (b := film5 vi si k0 k1 k2 k3 k4) (n := 15) rfl (by decide) (by decide)) B7 F11 X7 N11 T7 rfl rfl (by decide) (by decide) trivial ?_
        rintro r tl h12 tk12 F12 N12 _ _ ⟨t12, rfl, rfl⟩
        rw [film_rev w0 w1 w2 w3 w4]
        refine hR1 _ _ ?_
        replace N12 := show News hb L' h12 ((I, oI) :: tlNews T dK L' oT' oK' oA4 oB oC FX rest) from N12
        clear F11 N11 hR1 R1
        refine wpS_of ?_
        k_steps
        have gK := (N12 (dK, oK') (.tail _ mem_dK)).1
        refine ⟨fun_joined (X7.keeps F12.keep), wpS_of ?_⟩
        refine hide fun R2 hR2 => ?_
        refine useConM (c_joined (p0 := 3 - m0) (p1 := 2 - m1) (p2 := 1 - m2) (p3 := 0) (kvs := kvK) (wheel_rev w4) (wheel_rev w3) (wheel_rev w2) (wheel_rev w1) (wheel_rev w0) (by omega) (by omega) (by omega) (by decide) hs hv)
          [(I, oI), (T, oT')] ((L' + 1 + 1 + 1, oA4) :: (L' + 1 + 1, oB) :: (L' + 1, oC) :: (FX ++ rest))
          B7 F12 X7 N12 n1 ?n2 T7 rfl rfl (by decide) (by decide) ?pre ?_
        case n2 => exact all_cons (cell_ne_dict (N12 (L' + 1 + 1 + 1, oA4) (by k_mem)).1 dA4 gK hoK) (all_cons (cell_ne_dict (N12 (L' + 1 + 1, oB) (by k_mem)).1 dB gK hoK) (all_cons (cell_ne_dict (N12 (L' + 1, oC) (by k_mem)).1 dC gK hoK) (all_app (fun q hq => fxD q hq _ _ _ _ (N12 q (.tail _ (mem_fx hq))).1 gK hoK) neK7)))
        case pre =>
          have gM := (N12 (MI, listOf #[.int ((3 - m0 : Nat) : Int) u0, .int ((2 - m1 : Nat) : Int) u1, .int ((1 - m2 : Nat) : Int) u2, .int 0 u3] 0) (.tail _ (mem_fx mMI))).1
          exact ⟨⟨u0, u1, u2, u3, 0, (Heap.hide_ne _ (list_ne_dict gM gK hoK)).trans gM⟩, sysK, hoK, by omega, fun e he => (hke e he).mono fun a o h => (Heap.hide_ne _ (neK7 _ h)).trans (N12 (a, o) (.tail _ (mem_rs h))).1⟩
        intro r oK2 tl13 h13 tk13 F13 N13 ne13 hp13
        refine hideP fun G hG => ?_
        obtain ⟨⟨p13, t13, x13, hr13, hp13⟩, kvK2, hoK2, hkl2, hke2⟩ := hp13
        generalize hJ : joinGo [3 - m0, 2 - m1, 1 - m2, 0] 1 [2 - k4, 2 - k3, 2 - k2, 2 - k1, 2 - k0] = J at hp13 hJ2 hsnoc
        have neK2 : ∀ q ∈ tl13 ++ rest, q.1 ≠ dK := all_app (fun q hq e => ne13 (dK, oK2) (by k_mem) q hq e.symm) neK7
        replace N13 : News hb L' h13 ((p13, tupO #[.int J.1 t13, .str (txt vi si J.2) x13]) :: (I, oI) :: tlNews T dK L' oT' oK2 oA4 oB oC FX (tl13 ++ rest)) := tl_join2 N13 hp13
        have hentK2 : ∀ e ∈ kvK2, Entry vi si (fun p o => (p, o) ∈ tl13 ++ rest) e := fun e he => (hke2 e he).elim (fun h => (hke e h).mono fun a o h => List.mem_append_right _ h) fun h => h.mono fun a o h => List.mem_append_left _ h
        have neI2 : ∀ q ∈ tl13, q.1 ≠ I := fun q hq e => ne13 (I, oI) (.head _) q hq e.symm
        have neT0 : T ≠ I := off7 (T, oT') mem_tT
        refine hG ?_
        clear hG G N12 F12 ne13 hke2 hp13 hke gK hoK
        subst hr13
        refine hR2 _ _ ?_
        clear hR2 R2
        k_steps
        rename_i h14 F14 N14
        replace F14 : Fr hb L' h14 (TM FA SA MI dK c tc (some (Value.ref T)) (some (Value.ref ra)) (some (.bytes (film5 vi si k0 k1 k2 k3 k4) t10)) (some (.int J.1 t13)) (some (.str (txt vi si J.2) x13)) v5 v6 v7 v8) := fr_set2 F14 rfl rfl rfl rfl
        by_cases hJ0 : J.1 = 0
        · rw [hJ0] at F14
          rw [if_neg (by simp [hJ0]), List.append_nil] at hsnoc
          refine wpS_execs_cons (wpS_If ?_)
          k_steps
          refine wpS_of (wpAny_execs_nil (wpS_of (wpAny_execs_nil ?_)))
          refine hRQ _ _ ?_
          dsimp only [GTurn]
          obtain ⟨kvs, h1, h2⟩ := table
          exact GNxt.intro F14 N14 (tlNews T dK L' oT' oK2 oA4 oB oC FX (tl13 ++ rest)) (fun q hq => List.mem_cons_of_mem _ hq) (tl_off off7 neT0 neI2)
            ⟨T, oT', oK2, tl13 ++ rest, _, _, _, _, _, _, _, _, ⟨⟨_, _, T7⟩, X7, ⟨_, B7⟩, bare7, os7, based, rin.mono fun a o h => List.mem_append_right _ h, lights.mono fun a o h => List.mem_append_right _ h, ⟨kvK2, hoK2, by omega, hentK2⟩, ⟨kvs, h1, by rw [hsnoc]; exact h2.mono fun a o h => List.mem_append_right _ h⟩, sysT7, neT7, neK2⟩⟩
        · rw [if_pos hJ0] at hsnoc
          refine hideP fun G hG => ?_
          have hJ3 := hJ2 hJ0
          have sgn0 : signR [k0, k1, k2, k3, k4] ≠ 0 := sign_ne _
          obtain ⟨sg, hsg⟩ : ∃ sg, sg = signR [k0, k1, k2, k3, k4] := ⟨_, rfl⟩
          have sgn : sg ≠ 0 := hsg ▸ sgn0
          have e1 : J.1 = sg := by rw [hJ3, hsg]
          have e2 : txt vi si J.2 = lt vi si (2 - c) := by rw [hJ3]; rfl
          replace N14 : News hb L' h14 ((I, oI) :: tlNews T dK L' oT' oK2 oA4 oB oC FX (tl13 ++ rest)) := News_drop 1 N14
          replace F14 : Fr hb L' h14 (TM FA SA MI dK c tc (some (Value.ref T)) (some (Value.ref ra)) (some (.bytes (film5 vi si k0 k1 k2 k3 k4) t10)) (some (.int sg t13)) (some (.str (lt vi si (2 - c)) x13)) v5 v6 v7 v8) := e2 ▸ e1 ▸ F14
          refine hG ?_
          clear hG G hJ2 hJ3 e1 e2
          refine wpS_execs_cons (wpS_If ?_)
          k_steps
          rotate_left
          · exact absurd (by assumption) sgn
          refine wpS_execs_cons (wpS_Assign_Name (wpS_Call_ ?_) rfl)
          k_steps
          refine wpS_callDef (wpS_args_cons (wpS_Call_ ?_))
          k_steps
          refine wpS_callDef (wpS_args_cons (wpS_of ?_))
          k_steps
          unfold Stop
          refine hide fun R3 hR3 => ?_
          k_dflt (refine lcE (L := L') (m := TM FA SA MI dK c tc (some (Value.ref T)) (some (Value.ref ra)) (some (.bytes (film5 vi si k0 k1 k2 k3 k4) t10)) (some (.int sg t13)) (some (.str (lt vi si (2 - c)) x13)) v5 v6 v7 v8) (h₀ := hb) (by rfl) (by decide) (by rfl) (by decide) (by rfl) (by intro _; rfl) ?_)
          k_steps
          refine it_str rfl F14 N14 fun I2 g2 St2 src2 F15 N15 off15 => lc_map ([(oct vi si (2 - c) 0), (oct vi si (2 - c) 1), (oct vi si (2 - c) 2)].map fun c => .int c 0) (by rfl) (by show 3 ≤ 1000; decide) rfl src2 F15 N15 off15 trivial ?el ?fin
          case el =>
            intro C Dx j v ys2 oI2 oC2 h tk hi hP hC F2 N2
            refine hideP fun G hG => ?_
            obtain ⟨u, hC1, hC2⟩ := hC
            obtain ⟨c', t', hc, hv1⟩ := hP
            replace hC2 := hC2.trans (congrArg some hv1)
            refine hG ?_
            clear hG G hv1
            k_steps
            refine MapEnd.intro (by k_asm) (by k_asm) (fun _ h => h) ?_
            exact ord_out z.1 hi hc
          case fin =>
          intro ays ahys D2 h16 tk16 F16 N16 off16
          refine hR3 _ _ ?_
          clear hR3 R3 off16 F15 N15 off15 src2 St2
          k_steps
          unfold Stop
          refine bytes_to F16 N16 (PySem.IsL.isList (N16 _ List.mem_cons_self).1) (ns := octN vi si [2 - c]) ahys (octN_ok z.1) (by rw [sizeLine_eq]; exact (by decide : 3 ≤ 16777216)) rfl (by rfl) fun h17 t17 tk17 F17 N17 => ?_
          clear F16 N16 ahys
          k_steps
          refine wpS_of ?_
          k_steps
          refine ⟨fun_swap (X7.keeps F17.keep), ?_⟩
          refine hideS fun R4 hR4 => ?_
          refine useConS (c_swap (b := #[b8 (oct vi si (2 - c) 0), b8 (oct vi si (2 - c) 1), b8 (oct vi si (2 - c) 2)]) (n := 3) rfl (by decide) (by decide)) B7 F17 X7 N17 T7 rfl rfl (by decide) (by decide) trivial ?_
          rintro r tl h18 tk18 F18 N18 _ _ ⟨t18, rfl, rfl⟩
          rw [rev3]
          refine hR4 _ _ ?_
          replace N18 := show News hb L' h18 ((I, oI) :: tlNews T dK L' oT' oK2 oA4 oB oC FX (tl13 ++ rest)) from N18
          clear hR4 R4 F17 N17
          refine wpS_of (args_nil ?_)
          refine ⟨fun_text (X7.keeps F18.keep), wpS_of ?_⟩
          refine hide fun R5 hR5 => ?_
          refine useCon c_textB B7 F18 X7 N18 T7 rfl rfl (by decide) (by decide) trivial ?_
          rintro r tl h19 tk19 F19 N19 _ _ ⟨⟨t19, rfl⟩, rfl⟩
          rw [lt_rev z.1 hc]
          refine hR5 _ _ ?_
          replace N19 := show News hb L' h19 ((I, oI) :: tlNews T dK L' oT' oK2 oA4 oB oC FX (tl13 ++ rest)) from N19
          clear hR5 R5 F18 N18
          k_steps
          rename_i h20 F20 N20
          replace F20 : Fr hb L' h20 (TM FA SA MI dK c tc (some (Value.ref T)) (some (Value.ref ra)) (some (.bytes (film5 vi si k0 k1 k2 k3 k4) t10)) (some (.int sg t13)) (some (.str (lt vi si (2 - c)) x13)) (some (.str (lt vi si c) t19)) v6 v7 v8) := fr_set F20 rfl rfl
          refine wpS_execs_cons (wpS_Assign_Tuple (wpS_of ?_) rfl rfl)
          k_steps
          unfold Stop
          refine hide fun R6 hR6 => ?_
          have gK2 := (N20 (dK, oK2) (.tail _ mem_dK)).1
          have hFK : FA ≠ dK := fun e => by have := (N20 (dK, oK2) (.tail _ mem_dK)).2.2; rw [← show FA = (dK, oK2).1 from e, gFA] at this; cases this
          refine useConM (c_joined (p0 := p0) (p1 := p1) (p2 := p2) (p3 := p3) (kvs := kvK2) w0 w1 w2 w3 w4 q0 q1 q2 q3 hs hv)
            [(I, oI), (T, oT')] ((L' + 1 + 1 + 1, oA4) :: (L' + 1 + 1, oB) :: (L' + 1, oC) :: (FX ++ (tl13 ++ rest)))
            B7 F20 X7 N20 n1 ?n2 T7 rfl rfl (by decide) (by decide) ?pre ?_
          case n2 => exact all_cons (cell_ne_dict (N20 (L' + 1 + 1 + 1, oA4) (by k_mem)).1 dA4 gK2 hoK2) (all_cons (cell_ne_dict (N20 (L' + 1 + 1, oB) (by k_mem)).1 dB gK2 hoK2) (all_cons (cell_ne_dict (N20 (L' + 1, oC) (by k_mem)).1 dC gK2 hoK2) (all_app (fun q hq => fxD q hq _ _ _ _ (N20 q (.tail _ (mem_fx hq))).1 gK2 hoK2) neK2)))
          case pre => exact ⟨⟨f0, f1, f2, f3, fn, (Heap.hide_ne _ hFK).trans (F20.keep _ _ gFA)⟩, sysK, hoK2, by omega, fun e he => (hentK2 e he).mono fun a o h => (Heap.hide_ne _ (neK2 _ h)).trans (N20 (a, o) (.tail _ (mem_rs h))).1⟩
          intro r oK3 tl21 h21 tk21 F21 N21 ne21 hp21
          refine hideP fun G hG => ?_
          obtain ⟨⟨p21, t21, x21, hr21, hp21⟩, kvK3, hoK3, hkl3, hke3⟩ := hp21
          rw [hj1, ← hsg] at hp21
          have neK3 : ∀ q ∈ tl21 ++ (tl13 ++ rest), q.1 ≠ dK := all_app (fun q hq e => ne21 (dK, oK3) (by k_mem) q hq e.symm) neK2
          replace N21 : News hb L' h21 ((p21, tupO #[.int sg t21, .str (lt vi si c) x21]) :: (I, oI) :: tlNews T dK L' oT' oK3 oA4 oB oC FX (tl21 ++ (tl13 ++ rest))) := tl_join2 N21 hp21
          have hentK3 : ∀ e ∈ kvK3, Entry vi si (fun p o => (p, o) ∈ tl21 ++ (tl13 ++ rest)) e := fun e he => (hke3 e he).elim (fun h => (hentK2 e h).mono fun a o h => List.mem_append_right _ h) fun h => h.mono fun a o h => List.mem_append_left _ h
          have neI3 : ∀ q ∈ tl21, q.1 ≠ I := fun q hq e => ne21 (I, oI) (.head _) q hq e.symm
          refine hG ?_
          clear hG G N20 F20 ne21 hke3 hp21
          subst hr21
          refine hR6 _ _ ?_
          clear hR6 R6
          k_steps
          rename_i h22 F22 N22
          replace F22 : Fr hb L' h22 (TM FA SA MI dK c tc (some (Value.ref T)) (some (Value.ref ra)) (some (.bytes (film5 vi si k0 k1 k2 k3 k4) t10)) (some (.int sg t13)) (some (.str (lt vi si (2 - c)) x13)) (some (.str (lt vi si c) t19)) (some (.int sg t21)) (some (.str (lt vi si c) x21)) v8) := fr_set2 F22 rfl rfl rfl rfl
          replace N22 : News hb L' h22 ((I, oI) :: tlNews T dK L' oT' oK3 oA4 oB oC FX (tl21 ++ (tl13 ++ rest))) := News_drop 1 N22
          refine wpS_execs_any ?_
          k_steps
          unfold Stop
          refine hide fun R7 hR7 => ?_
          k_dflt (refine lcE (L := L') (m := TM FA SA MI dK c tc (some (Value.ref T)) (some (Value.ref ra)) (some (.bytes (film5 vi si k0 k1 k2 k3 k4) t10)) (some (.int sg t13)) (some (.str (lt vi si (2 - c)) x13)) (some (.str (lt vi si c) t19)) (some (.int sg t21)) (some (.str (lt vi si c) x21)) v8) (h₀ := hb) (by rfl) (by decide) (by rfl) (by decide) (by rfl) (by intro _; rfl) ?_)
          k_steps
          have hraN : (ra, listOf xs.toArray nx) ∈ (I, oI) :: tlNews T dK L' oT' oK3 oA4 oB oC FX (tl21 ++ (tl13 ++ rest)) := .tail _ (mem_rs (List.mem_append_right _ (List.mem_append_right _ hra)))
          refine it_list rfl F22 N22 (.inr ⟨_, hraN, rfl, _, rfl⟩) fun I6 g23 St23 src6 F23 N23 off23 => lc_map ([k0, k1, k2, k3, k4].map fun k => Value.str ⟨#[letter k]⟩ 0) (by rw [hxs5]; rfl) (by rw [hxs5]; decide) rfl src6 F23 N23 off23 (.inr ⟨_, hraN, rfl, _, rfl⟩) ?el6 ?fin6
          case el6 =>
            intro C Dx q v ys2 oI6 oC6 h24 tk24 hq hv hC F24 N24
            refine hideP fun G hG => ?_
            obtain ⟨u, hC24, hu⟩ := hC
            have hqr : q < [k0, k1, k2, k3, k4].length := by rw [← hxl]; simpa using hq
            obtain ⟨ux, hx⟩ := num_at hxs hqr
            have hvq := Option.some.inj ((show xs[q]? = some v by simpa using hv).symm.trans hx)
            have hk2 : Wheel ([k0, k1, k2, k3, k4].getD q 0) := hrw _ (getD_mem hqr)
            have hlet := letter_at hqr
            replace hu := hu.trans (congrArg some hvq)
            refine hG ?_
            clear hG G hvq hv
            generalize [k0, k1, k2, k3, k4].getD q 0 = kx at hx hlet hk2 hu
            rcases hk2 with rfl | rfl | rfl
            all_goals
              k_steps
              refine MapEnd.intro F24 N24 (fun _ h => h) ?_
              rw [← hlet]
              rfl
          case fin6 =>
          intro ws hws WS h25 tk25 F25 N25 off25
          refine hR7 _ _ ?_
          clear hR7 R7
          k_steps
          unfold Stop
          refine join_word hrl hws (N25 (WS, lst ws) List.mem_cons_self).1 ?_
          replace N25 : News hb L' h25 ((I, oI) :: tlNews T dK L' oT' oK3 oA4 oB oC FX (tl21 ++ (tl13 ++ rest))) := News_drop 1 N25
          generalize hword : wordOf [k0, k1, k2, k3, k4] = word
          clear off25 F23 N23 off23 src6 St23 hraN
          k_steps
          rename_i h26 F26 N26
          replace F26 : Fr hb L' h26 (TM FA SA MI dK c tc (some (Value.ref T)) (some (Value.ref ra)) (some (.bytes (film5 vi si k0 k1 k2 k3 k4) t10)) (some (.int sg t13)) (some (.str (lt vi si (2 - c)) x13)) (some (.str (lt vi si c) t19)) (some (.int sg t21)) (some (.str (lt vi si c) x21)) (some (.str word tk25))) := fr_set F26 rfl rfl
          refine wpS_execs_cons (wpS_Assign_Name (wpS_Call_ ?_) rfl)
          k_steps
          refine wpS_callDef (wpS_args_cons (wpS_of ?_))
          k_steps
          refine wpS_of ?_
          obtain ⟨back, hback⟩ : ∃ back, back = lt vi si c := ⟨_, rfl⟩
          replace F26 : Fr hb L' h26 (TM FA SA MI dK c tc (some (Value.ref T)) (some (Value.ref ra)) (some (.bytes (film5 vi si k0 k1 k2 k3 k4) t10)) (some (.int sg t13)) (some (.str (lt vi si (2 - c)) x13)) (some (.str back t19)) (some (.int sg t21)) (some (.str back x21)) (some (.str word tk25))) := hback ▸ F26
          refine args_cons ?_
          refine kdn_eval (knd := strKind PySem.Challenge.rw_zn0014_01.prog w) F26 N26 T7.nolimit (by rfl) (by rfl) (by exact List.cons_ne_nil _ _) (by decide) fun dS h27 oS F27 N27 lt27 sysS hS => ?_
          k_steps
          unfold Stop
          rename_i TW h28 lW TB h29 F29 N29 lB
          refine hideP fun G hG => ?_
          have gS := N29 (dS, oS) (by k_mem)
          have hwb : word ≠ back := hword ▸ hback ▸ word_ne rfl
          have hfr := told_new (ms := [3 - m0, 2 - m1, 1 - m2, 0]) hnd hrow
          rw [hword] at hfr
          obtain ⟨kvs, hkT, hTT⟩ := table
          rw [← hback] at hTT
          obtain ⟨old, ho1, ho2, ho3⟩ := hTT.old
          obtain ⟨more, Bs⟩ := based
          have hlv : kvs.length ≤ 17 := by
            have e1 := hTT.len
            have e2 := told_le (ms := [3 - m0, 2 - m1, 1 - m2, 0]) (rows := undone c [p0, p1, p2, p3]) (i := i)
            split at e1 <;> omega
          refine hG ?_
          clear hG G
          refine ⟨[(word, .ref TW), (back, .ref TB)], ⟨strKind_is _ _ _ _, rfl, strKind_is _ _ _ _, rfl, trivial⟩, Heap.dictOf_iff.mpr ⟨oS, gS.1, hS⟩, fun h30 d30 s30 => ?_⟩
          refine hideP fun G hG => ?_
          obtain ⟨oS2, hoS2, hdS2⟩ := Heap.dictOf_iff.mp d30
          rw [merged_two hwb] at hdS2
          have N30 := News.setIn (own := [(TB, _), (TW, _)]) (rest := (I, oI) :: tlNews T dK L' oT' oK3 oA4 oB oC FX (tl21 ++ (tl13 ++ rest))) N29 (all_cons (Nat.ne_of_gt lB.2.1) (all_cons (Nat.ne_of_gt lW.1) all_nil)) (fun q hq => Nat.ne_of_lt (lt27 q hq)) s30 hoS2
          have F30 := F29.change s30 gS.2.1 gS.2.2
          refine hG ?_
          clear hG G F29 N29 d30 s30 gS hS lt27
          k_steps
          have gT := (N30 (T, oT') (by k_mem)).1
          have gTB := (N30 (TB, _) List.mem_cons_self).1
          refine ⟨fun_callers (X7.keeps F30.keep), ?_⟩
          refine hideS fun R8 hR8 => ?_
          refine useConG (c_callers (kvs := kvs) (word := word) (back := back) (b1 := 1) (b2 := sg) (b3 := sg) (T := T) (S := dS) (a := TW) (b := TB) (P := P) (ps := ps ++ more) old hwb (hTT.fresh hfr hwb) ho1)
            B7 F30 X7 N30 T7 Bs bare7 rfl rfl (by decide) (by decide) ?pre ?_
          case pre =>
            refine ⟨sysT7, sysS, by omega, Heap.dictOf_iff.mpr ⟨oT', gT, hkT⟩, Heap.dictOf_iff.mpr ⟨oS2, hoS2, hdS2⟩, ⟨_, _, _, gTB⟩, fun x hx => ?_⟩
            obtain ⟨t1, t2, t3, hx2⟩ := ho2 x hx
            exact ⟨t1, t2, t3, (N30 (x.1, tupO #[.int x.2.1 t1, .int x.2.2.1 t2, .int x.2.2.2 t3]) (.tail _ (.tail _ (.tail _ (.tail _ (mem_rs (List.mem_append_right _ (List.mem_append_right _ hx2)))))))).1⟩
          intro r tl31 s31 hb31 more31 Bs31 F31 N31 ne31 X31 T31 B31 bare31 os31 keep31 hp31
          refine hideP fun G hG => ?_
          obtain ⟨R, oR, vR, hrR, hR, sysR, hoR, hsum⟩ := hp31
          obtain ⟨tp31, lo31, T31⟩ := T31
          refine hG ?_
          clear hG G F30 N30
          subst hrR
          refine hR8 _ _ ?_
          clear hR8 R8
          k_steps
          rename_i h32 F32 N32
          replace F32 : Fr hb31 L' h32 (TM FA SA MI dK c tc (some (Value.ref R)) (some (Value.ref ra)) (some (.bytes (film5 vi si k0 k1 k2 k3 k4) t10)) (some (.int sg t13)) (some (.str (lt vi si (2 - c)) x13)) (some (.str back t19)) (some (.int sg t21)) (some (.str back x21)) (some (.str word tk25))) := fr_set F32 rfl rfl
          refine wpS_of (wpAny_execs_nil (wpS_of (wpAny_execs_nil ?_)))
          refine hRQ _ _ ?_
          dsimp only [GTurn]
          generalize hTBo : ({ cls := Value.type "tuple", data := Data.seq #[Value.int 1 (tk25 + 1 + 1), Value.int sg t21, Value.int sg t13] } : Obj) = oTB at N32 ne31
          generalize hTWo : ({ cls := Value.type "tuple", data := Data.seq #[Value.int sg t21, Value.int sg t13, Value.str back x21, Value.str back t19] } : Obj) = oTW at N32 ne31
          replace ne31 : ∀ q ∈ (TB, oTB) :: (TW, oTW) :: (dS, oS2) :: (I, oI) :: tlNews T dK L' oT' oK3 oA4 oB oC FX (tl21 ++ (tl13 ++ rest)), ∀ p ∈ tl31, q.1 ≠ p.1 := ne31
          obtain ⟨RS, hRS⟩ : ∃ RS, RS = tl31 ++ ((TW, oTW) :: (TB, oTB) :: (tl21 ++ (tl13 ++ rest))) := ⟨_, rfl⟩
          have sub2 : ∀ q ∈ tl21 ++ (tl13 ++ rest), q ∈ RS := fun q hq => hRS ▸ List.mem_append_right _ (.tail _ (.tail _ hq))
          have sub : ∀ q ∈ rest, q ∈ RS := fun q hq => sub2 q (List.mem_append_right _ (List.mem_append_right _ hq))
          have dK31 : ∀ p ∈ tl31, p.1 ≠ dK := fun p hp e => ne31 (dK, oK3) (by k_mem) p hp e.symm
          have I31 : ∀ p ∈ tl31, p.1 ≠ I := fun p hp e => ne31 (I, oI) (by k_mem) p hp e.symm
          have neKR : ∀ q ∈ RS, q.1 ≠ dK := hRS ▸ all_app dK31 (all_cons (Nat.ne_of_gt (allLt_mem lW.2.2 _ mem_dK)) (all_cons (Nat.ne_of_gt (allLt_mem lB.2.2.2 _ mem_dK)) neK3))
          have offR : ∀ q ∈ tl31 ++ ((TW, oTW) :: (TB, oTB) :: (tl21 ++ tl13)), q.1 ≠ I := all_app I31 (all_cons (Nat.ne_of_gt lW.2.1) (all_cons (Nat.ne_of_gt lB.2.2.1) (all_app neI3 neI2)))
          have offN : ∀ q ∈ tlNews R dK L' oR oK3 oA4 oB oC FX RS, q.1 ≠ I := by
            rw [hRS, show tl31 ++ ((TW, oTW) :: (TB, oTB) :: (tl21 ++ (tl13 ++ rest))) = (tl31 ++ ((TW, oTW) :: (TB, oTB) :: (tl21 ++ tl13))) ++ rest by simp only [List.append_assoc, List.cons_append]]
            exact tl_off off7 (I31 _ hR) offR
          have hRR : (R, oR) ∈ RS := hRS ▸ List.mem_append_left _ hR
          have hTW : (TW, oTW) ∈ RS := hRS ▸ List.mem_append_right _ (.head _)
          have hTB : (TB, oTB) ∈ RS := hRS ▸ List.mem_append_right _ (.tail _ (.head _))
          have s31 : ∀ q ∈ tl31, q ∈ RS := fun q hq => hRS ▸ List.mem_append_left _ hq
          refine GNxt.intro F32 N32 (tlNews R dK L' oR oK3 oA4 oB oC FX RS) (hRS ▸ tl_sub hR) offN
            ⟨R, oR, oK3, RS, _, _, _, _, _, _, _, _, ⟨⟨tp31, lo31, T31⟩, X31, ⟨_, B31⟩, bare31, os31.trans os7, ⟨more ++ more31, by rw [← Array.append_assoc]; exact Bs31⟩,
              rin.mono fun a o h => sub _ h, lights.mono fun a o h => sub _ h, ⟨kvK3, hoK3, by omega, fun e he => (hentK3 e he).mono fun a o h => sub2 _ h⟩, ⟨_, hoR, ?_⟩, sysR, dK31 _ hR, neKR⟩⟩
          subst hsg hback hword
          rw [hsnoc]
          exact hTT.snoc (row := [k0, k1, k2, k3, k4]) (a := TW) (b := TB) (old := old) (tl := tl31) hfr hwb (fun r hr => word_ne (hrows r (told_mem hr)).1) ho1 (ho3 _) (fun a o h => sub _ h) ⟨t21, t13, x21, t19, (by rw [← hTWo] at hTW; exact hTW)⟩ ⟨tk25 + 1 + 1, t21, t13, (by rw [← hTBo] at hTB; exact hTB)⟩ hsum s31
end
end Mine
end
section
open PySem PySem.W PySem.Calls PyProof.Rows PyProof.Rows.LCg
namespace Mine
theorem call_cellsS {prog : Program} {w : World} {A : Around} {R : Result → Shared → Prop} {s : Shared} {name : Str} {params : Arguments} {body : List Stmt} {scope : Scope}
    {pm cd doc : Value} {a : Addr} {o : Obj} {args : List Value} {binds : List (Str × Value)}
    (hroom : A.depth < recursionLimit) (ho : s.heap.get? a = some o) (hdata : o.data = .func (Calls.docDef name params body scope pm cd doc)) (hlim : s.heap.NoLimit) (hcd : s.heap.CodeRec cd name)
    (hbind : bindArgs (Calls.docDef name params body scope pm cd doc) ⟨args, []⟩ = pure binds)
    (hkind : (binds.all fun y => scope.names.lookup y.1 == some .local || scope.names.lookup y.1 == some .cell) = true)
    (hnd : ((cellsFrom 0 scope.names []).map (·.1)).Nodup)
    (h : ∀ h₁ tk cells, Fr s.heap s.heap.objs.size h₁ (bindL (envOfC name scope s.heap.objs.size a cd).kindOf binds fun _ => none) → News s.heap s.heap.objs.size h₁ cells →
      CellsAre (bindC (envOfC name scope s.heap.objs.size a cd).kindOf binds fun _ => none) (cellsFrom (s.heap.objs.size + 1) scope.names []) cells →
      wpS (model prog w) (A.deeper (envOfC name scope s.heap.objs.size a cd)) (execs body (envOfC name scope s.heap.objs.size a cd))
        (fun f s' => R (.ok (.ret (match f with | .ret v => v | _ => .none))) s') ff { s with heap := h₁, toks := tk })
    (hco : scope.isCoroutine = false := by rfl) (hgen : scope.isGenerator = false := by rfl) (hk : scope.kind = .function := by rfl) :
    codeS (model prog w) A (.call (.ref a) ⟨args, []⟩) R s := by
  refine codeS_call_function hroom ho hdata hco hgen rfl hcd ?_
  rw [hbind]
  refine wpAny_pure ?_
  refine wpAny_newFunctionEnv_cells hk (kindsX hkind _) fun env' he s' x => ?_
  subst he
  refine ⟨hlim.keeps x.toInCall.keep, codeS_func ?_⟩
  obtain ⟨h₁, tk, rfl, _⟩ := x.done
  obtain ⟨cells, NC, Y⟩ := Cl.news (h₀ := s.heap) (Nat.le_refl _) fun n c hm => ⟨x.cell n c (lookup_of_mem_nodup (cellsFrom_names scope.names 0 (s.heap.objs.size + 1) [] [] rfl ▸ hnd) hm), x.above n c hm⟩
  exact h h₁ tk cells ⟨x.toInCall.ns, x.toInCall.keep, Nat.le_refl _⟩ NC Y
theorem three_of (ns : List Int) : ∃ a b c, ns.take 3 ++ [0, 23, 18].drop ns.length = [a, b, c] := by
  match ns with
  | [] => exact ⟨_, _, _, rfl⟩
  | [_] => exact ⟨_, _, _, rfl⟩
  | [_, _] => exact ⟨_, _, _, rfl⟩
  | a :: b :: c :: r =>
    refine ⟨a, b, c, ?_⟩
    rw [List.drop_of_length_le (by simp)]
    simp
theorem ints_three {vs : List Value} {a b c : Int} (h : IntsAre vs [a, b, c]) : ∃ t u v, vs = [.int a t, .int b u, .int c v] := by
  cases h with
  | cons _ t h => cases h with
    | cons _ u h => cases h with
      | cons _ v h => cases h; exact ⟨t, u, v, rfl⟩
end Mine
end
section
open PySem PySem.W PySem.Calls PyProof.Rows PyProof.Rows.LCg
namespace Mine
set_option maxRecDepth 100000
set_option maxHeartbeats 8000000
theorem PairsIn.append {get : Addr → Obj → Prop} {vs ws : List Value} {ps qs : List (Nat × Nat)} (h : PairsIn get vs ps) (h' : PairsIn get ws qs) : PairsIn get (vs ++ ws) (ps ++ qs) := by
  refine ⟨by rw [List.length_append, List.length_append, h.1, h'.1], fun j v x h1 h2 => ?_⟩
  rw [List.getElem?_append] at h1 h2
  rw [← h.1] at h2
  split at h1
  · next hl => rw [if_pos hl] at h2; exact h.2 j v x h1 h2
  · next hl => rw [if_neg hl] at h2; exact h'.2 _ v x h1 h2
theorem cuts_all : ((List.range 4).all fun p0 => (List.range 3).all fun p1 => (List.range 2).all fun p2 => (cutsOf [p0, p1, p2, 0]).all fun x => decide (x.1 < 6) && decide (x.2 < 6)) = true := by decide +kernel
theorem cuts_lt {p0 p1 p2 : Nat} (q0 : p0 < 4) (q1 : p1 < 3) (q2 : p2 < 2) : ∀ x ∈ cutsOf [p0, p1, p2, 0], x.1 < 6 ∧ x.2 < 6 := by
  have h := cuts_all
  simp only [List.all_eq_true, List.mem_range, Bool.and_eq_true, decide_eq_true_eq] at h
  exact h p0 q0 p1 q1 p2 q2
noncomputable def anyWay (c : Nat) (ps ms : List Nat) : Bool := (waysTo 4).any fun way => okM (cutsOf ps ++ cutsOf ms) (marksOf c way)
noncomputable def anyAll (c : Nat) : Bool := (List.range 4).all fun p0 => (List.range 3).all fun p1 => (List.range 2).all fun p2 => (List.range 4).all fun m0 => (List.range 3).all fun m1 => (List.range 2).all fun m2 => anyWay c [p0, p1, p2, 0] [m0, m1, m2, 0]
theorem any_all0 : anyAll 0 = true := by decide +kernel
theorem any_all1 : anyAll 1 = true := by decide +kernel
theorem any_all2 : anyAll 2 = true := by decide +kernel
theorem any_all {c : Nat} (hc : Wheel c) : anyAll c = true := by
  rcases hc with rfl | rfl | rfl
  · exact any_all0
  · exact any_all1
  · exact any_all2
theorem due_some {c p0 p1 p2 m0 m1 m2 : Nat} (hc : Wheel c) (q0 : p0 < 4) (q1 : p1 < 3) (q2 : p2 < 2) (r0 : m0 < 4) (r1 : m1 < 3) (r2 : m2 < 2) : dueRows (cutsOf [p0, p1, p2, 0] ++ cutsOf [m0, m1, m2, 0]) c (waysTo 4) ≠ [] := by
  have h := any_all hc
  unfold anyAll at h
  simp only [List.all_eq_true, List.mem_range] at h
  have h2 := h p0 q0 p1 q1 p2 q2 m0 r0 m1 r1 m2 r2
  obtain ⟨way, hw, hok⟩ := List.any_eq_true.mp h2
  unfold dueRows
  intro e
  have hm : rowM (marksOf c way) ∈ (((waysTo 4).map (marksOf c)).filter (okM (cutsOf [p0, p1, p2, 0] ++ cutsOf [m0, m1, m2, 0]))).map rowM := List.mem_map_of_mem (List.mem_filter.mpr ⟨List.mem_map_of_mem hw, hok⟩)
  rw [e] at hm; cases hm
theorem perm_sum {a b : List Int} (h : a.Perm b) : a.sum = b.sum := by
  induction h with
  | nil => rfl
  | cons x _ ih => rw [List.sum_cons, List.sum_cons, ih]
  | swap x y l => simp only [List.sum_cons]; omega
  | trans _ _ ih1 ih2 => exact ih1.trans ih2
section
variable {A : Around} {s : Shared}
theorem hits_all {kb : List (Str × Value)} : ∀ {kvs : List (Str × Value)}, (∀ e ∈ kvs, ∃ y, valueAt kb e.1 = some y ∧ SeqAt.EqAt A s e.2 y true) → KeqHits A s kb kvs true
  | [], _ => .nil
  | (k, v) :: r, h => by
    obtain ⟨y, hy, he⟩ := h (k, v) List.mem_cons_self
    exact KeqHits.hit hy he (hits_all fun e he => h e (List.mem_cons_of_mem _ he))
theorem value_of_mem {kvs : List (Str × Value)} (hn : (kvs.map (·.1)).Nodup) {e : Str × Value} (he : e ∈ kvs) : valueAt kvs e.1 = some e.2 := by
  induction kvs with
  | nil => cases he
  | cons x r ih =>
    unfold valueAt at ih ⊢
    rw [List.map_cons, List.nodup_cons] at hn
    rw [List.find?_cons]
    rcases List.mem_cons.mp he with rfl | he
    · simp
    · have hne : ¬ x.1 = e.1 := fun q => hn.1 (by rw [q]; exact List.mem_map_of_mem he)
      rw [decide_eq_false hne]
      exact ih hn.2 he
theorem eq_three {a b : Addr} {n x y : Int} {t1 t2 t3 u1 u2 u3 : Tok} (ha : s.heap.get? a = some (tupO #[.int n t1, .int x t2, .int y t3])) (hb : s.heap.get? b = some (tupO #[.int n u1, .int x u2, .int y u3])) (hu : A.in1.units + 64 < cLine) :
    SeqAt.EqAt A.in1 s (.ref a) (.ref b) true := by
  have ra : Reads s.heap (.ref a) (.tuple [.int n, .int x, .int y]) _ := .tuple ha rfl rfl (.cons (.int n t1) (.cons (.int x t2) (.cons (.int y t3) .nil)))
  have rb : Reads s.heap (.ref b) (.tuple [.int n, .int x, .int y]) _ := .tuple hb rfl rfl (.cons (.int n u1) (.cons (.int x u2) (.cons (.int y u3) .nil)))
  have hs : SeqAt.shaped (.tuple [.int n, .int x, .int y]) = true := by rfl
  have := keq_at (A := A) ra rb hs hs hu
  rwa [SeqAt.eqv_refl _ (SeqAt.canLay_of_shaped hs)] at this
theorem eq_four {a b : Addr} {n x : Int} {l k : Str} {t1 t2 t3 t4 u1 u2 u3 u4 : Tok} (hs : SeqAt.shaped (.tuple [.int n, .int x, .str l, .str k]) = true) (ha : s.heap.get? a = some (tupO #[.int n t1, .int x t2, .str l t3, .str k t4])) (hb : s.heap.get? b = some (tupO #[.int n u1, .int x u2, .str l u3, .str k u4])) (hu : A.in1.units + 64 < cLine) :
    SeqAt.EqAt A.in1 s (.ref a) (.ref b) true := by
  have ra : Reads s.heap (.ref a) (.tuple [.int n, .int x, .str l, .str k]) _ := .tuple ha rfl rfl (.cons (.int n t1) (.cons (.int x t2) (.cons (.str l t3) (.cons (.str k t4) .nil))))
  have rb : Reads s.heap (.ref b) (.tuple [.int n, .int x, .str l, .str k]) _ := .tuple hb rfl rfl (.cons (.int n u1) (.cons (.int x u2) (.cons (.str l u3) (.cons (.str k u4) .nil))))
  have := keq_at (A := A) ra rb hs hs hu
  rwa [SeqAt.eqv_refl _ (SeqAt.canLay_of_shaped hs)] at this
theorem told_due {light : Str} {kvs body : List (Str × Value)} {rowsT rowsD : List (List Nat)} {a : Addr} {t1 t2 t3 : Tok} (hT : ToldTab (fun a o => s.heap.get? a = some o) light kvs rowsT) (hn : (kvs.map (·.1)).Nodup)
    (hD : RowsTab (fun a o => s.heap.get? a = some o) light body rowsD) (ha : s.heap.get? a = some (tupO #[.int (rowsD.length : Int) t1, .int (rowsD.map signR).sum t2, .int (rowsD.map signR).sum t3]))
    (hp : rowsT.Perm rowsD) (hne : rowsD ≠ []) (hw : (rowsD.map wordOf).Nodup) (hl : ∀ r ∈ rowsD, wordOf r ≠ light) (hs : ∀ n x : Int, SeqAt.shaped (.tuple [.int n, .int x, .str light, .str light]) = true) (hu : A.in1.units + 64 < cLine) :
    kvs.length = (stored body light (.ref a)).length ∧ KeqHits A.in1 s (stored body light (.ref a)) kvs true := by
  have hTn : rowsT ≠ [] := fun e => hne (by subst e; exact List.nil_perm.mp hp)
  have hbl : body.length = rowsD.length := by simpa using congrArg List.length hD.1
  have hfresh : valueAt body light = none := by
    unfold valueAt
    rw [Option.map_eq_none_iff, List.find?_eq_none]
    intro e he hk
    have hk' : e.1 = light := by simpa using hk
    have hm : e.1 ∈ rowsD.map wordOf := by rw [← hD.1]; exact List.mem_map_of_mem he
    obtain ⟨r, hr, e2⟩ := List.mem_map.mp hm
    exact hl r hr (e2.trans hk')
  refine ⟨?_, hits_all fun e he => ?_⟩
  · rw [stored_new hfresh, List.length_append, List.length_singleton, hbl, hT.len, if_neg hTn, hp.length_eq]
  · have hv := value_of_mem hn he
    rcases hT.keys e he with hk | hk
    · have z := hT.light
      rw [if_neg hTn] at z
      obtain ⟨a', u1, u2, u3, e1, e2⟩ := z
      rw [hk, e1] at hv
      refine ⟨.ref a, by rw [hk, valueAt_stored, if_pos rfl], ?_⟩
      rw [← Option.some.inj hv]
      rw [hp.length_eq, perm_sum (hp.map signR)] at e2
      exact eq_three e2 ha hu
    · obtain ⟨row, hrow, ek⟩ := List.mem_map.mp hk
      obtain ⟨a', u1, u2, u3, u4, e1, e2⟩ := hT.row row hrow
      rw [← ek, e1] at hv
      have hrD := hp.mem_iff.mp hrow
      obtain ⟨j, hj, hjr⟩ := List.mem_iff_getElem.mp hrD
      have hjb : j < body.length := by omega
      obtain ⟨a2, v1, v2, v3, v4, e3, e4⟩ := hD.2 j body[j] row (List.getElem?_eq_getElem hjb) (by rw [List.getElem?_eq_getElem hj, hjr])
      have hkey : body[j].1 = wordOf row := by
        have := congrArg (fun l => l[j]?) hD.1
        simp only [List.getElem?_map, List.getElem?_eq_getElem hjb, List.getElem?_eq_getElem hj, Option.map_some, Option.some.injEq] at this
        rw [this, hjr]
      have hvb : valueAt body (wordOf row) = some body[j].2 := by
        rw [← hkey]; exact value_of_mem (by rw [hD.1]; exact hw) (List.getElem_mem hjb)
      refine ⟨.ref a2, by rw [← ek, valueAt_stored, if_neg (hl row hrD), hvb, e3], ?_⟩
      rw [← Option.some.inj hv]
      exact eq_four (hs _ _) e2 e4 hu
end
theorem lt_ok {vi si : Int} {c : Nat} (hv : Quarter vi) (hs : Quarter si) (hc : Wheel c) : PyData.strOk (lt vi si c) = true := by
  rcases hv with rfl | rfl | rfl | rfl <;> rcases hs with rfl | rfl | rfl | rfl <;> rcases hc with rfl | rfl | rfl <;> decide +kernel
theorem lt_shaped {vi si : Int} {c : Nat} (hv : Quarter vi) (hs : Quarter si) (hc : Wheel c) (n x : Int) : SeqAt.shaped (.tuple [.int n, .int x, .str (lt vi si c), .str (lt vi si c)]) = true := by
  have h := lt_ok hv hs hc
  generalize lt vi si c = l at h
  show (PyData.canLay0 _ && decide (_ ≤ 64)) = true
  rw [Bool.and_eq_true]
  refine ⟨?_, rfl⟩
  simp [PyData.canLay0, PyData.canLayAll0, h]
theorem cuts_len {p0 p1 p2 p3 : Nat} : (cutsOf [p0, p1, p2, p3]).length = 4 := rfl
end Mine
end
section
open PySem PySem.W PySem.Calls PyProof.Rows PyProof.Rows.LCg
namespace Mine
set_option maxRecDepth 100000
set_option maxHeartbeats 8000000
theorem mg_callers {w : World} {h : Heap} {mg : Str → Option Value} (G : h.Ns mainGlobals mg) (X : (hd.heap_1 w.params).In h) : mg (Str.ofString "add_callers") = some (.ref 98) := by
  obtain ⟨o3, es, ep, h1, h2, h3, h4⟩ := G
  have k3 := X mainGlobals _ (by rfl)
  rw [h1] at k3
  have e := Option.some.inj k3
  rw [← h4]
  subst e
  injection h2 with h2 _
  subst h2
  rfl
theorem callers_based {w : World} {h : Heap} {mean : ExcName → Option Value} {mg mb : Str → Option Value} (T : Top hd.view_1 (looseW hd.view_1 []) mean mg mb h) (X : (hd.heap_1 w.params).In h) : ∃ P, Based h h 97 P #[] := by
  obtain ⟨c, P, e, B⟩ := based_of_top T (name := Str.ofString "add_callers") rfl (mg_callers T.g X) (X 98 _ (by rfl)) (by rfl)
  injection e with e
  subst e
  exact ⟨P, B⟩
theorem post_ok (ns : List Int) : PySem.Challenge.rw_zn0014_01.row.toRowW.claim.post [ofPy (PyData.list (List.map PyData.int ns))] (ofPy (PyData.bool true)) [ofPy (PyData.list (List.map PyData.int ns))] = true := by
  refine postW_of (r := PySem.Challenge.rw_zn0014_01.row.toRowW) rfl (by wtm_val) ?_
  w_fin
theorem mod_nat (y : Int) {n : Int} (hn : 0 < n) : ∃ p : Nat, (p : Int) < n ∧ y.fmod n = (p : Int) :=
  ⟨(y.fmod n).toNat, by rw [Int.toNat_of_nonneg (Int.fmod_nonneg_of_pos _ hn)]; exact Int.fmod_lt_of_pos _ hn, (Int.toNat_of_nonneg (Int.fmod_nonneg_of_pos _ hn)).symm⟩
theorem quarter_mod (z : Int) : Quarter (1 + z.fmod 4) := by
  obtain ⟨p, h, e⟩ := mod_nat z (n := 4) (by decide)
  unfold Quarter; omega
theorem quarter_bits {si : Int} (hsi : Quarter si) : Float64.isInf (Float64.ofFrac (decide (si < 0) != decide ((4 : Int) < 0)) si.natAbs (Int.natAbs 4)) = false ∧ QBits (Float64.ofFrac (decide (si < 0) != decide ((4 : Int) < 0)) si.natAbs (Int.natAbs 4)) si := by
  unfold QBits
  rcases hsi with rfl | rfl | rfl | rfl <;> exact ⟨by decide +kernel, by decide +kernel⟩
theorem wheel_mod (z : Int) : ∃ c : Nat, Wheel c ∧ z.fmod 3 = (c : Int) := by
  obtain ⟨c, h, e⟩ := mod_nat z (n := 3) (by decide)
  exact ⟨c, wheel_lt.mpr (by omega), e⟩
theorem low_ok {vi si : Int} (h : Quarter si) : IntMulOk (10 * vi) (4 - si) := by
  unfold Quarter at h
  exact IntMulOk.of_right (intBits_le_64 (by omega) (by omega))
theorem oct_get {v s : Int} {c j : Nat} (hj : j < 3) : ([oct v s c 0, oct v s c 1, oct v s c 2].map fun n => Value.int n 0)[j]? = some (.int (oct v s c j) 0) := by
  rcases (show j = 0 ∨ j = 1 ∨ j = 2 by omega) with rfl | rfl | rfl <;> rfl
theorem oct_hi {v s z : Int} {c j : Nat} {t : Tok} (hj : j < 3) (hc : z.fmod 3 = (c : Int)) (e : 0 + (j : Int) = z.fmod 3) : some (nt (.int (40 * v) t)) = ([oct v s c 0, oct v s c 1, oct v s c 2].map fun n => Value.int n 0)[j]? := by
  obtain rfl : j = c := by omega
  rw [oct_get hj, oct, if_pos rfl]; rfl
theorem oct_lo {v s z : Int} {c j : Nat} {t : Tok} (hj : j < 3) (hc : z.fmod 3 = (c : Int)) (e : ¬ 0 + (j : Int) = z.fmod 3) : some (nt (.int (10 * v * (4 - s)) t)) = ([oct v s c 0, oct v s c 1, oct v s c 2].map fun n => Value.int n 0)[j]? := by
  rw [oct_get hj, oct, if_neg (show ¬ j = c from fun q => e (by subst q; omega))]; rfl
end Mine
end
section
open PySem PySem.W PySem.Calls PyProof.Rows PyProof.Rows.LCg
namespace Mine
theorem News_mid {h₀ h : Heap} {L : Addr} {a d c1 c2 c3 : Addr × Obj} {tl rest : List (Addr × Obj)} (N : News h₀ L h (tl ++ (a :: d :: c1 :: c2 :: c3 :: rest))) : News h₀ L h (d :: c1 :: c2 :: c3 :: (tl ++ rest)) :=
  News_sub N (all_cons (List.mem_append_right _ (by k_mem)) (all_cons (List.mem_append_right _ (by k_mem)) (all_cons (List.mem_append_right _ (by k_mem)) (all_cons (List.mem_append_right _ (by k_mem)) (all_app (fun q h => List.mem_append_left _ h) fun q h => List.mem_append_right _ (.tail _ (.tail _ (.tail _ (.tail _ (.tail _ h))))))))))
set_option maxRecDepth 100000
set_option maxHeartbeats 8000000
local macro_rules | `(tactic| walk_at "exec Assign cons ListComp") => `(tactic| refine Stop.of ?_)
local macro_rules | `(tactic| walk_at "eval ListComp") => `(tactic| refine Stop.of ?_)
local macro_rules | `(tactic| walk_at "subscriptTail Name Slice ref ref") => `(tactic| refine Stop.of ?_)
local macro_rules | `(tactic| walk_at "subscriptTail List Slice ref ref") => `(tactic| refine Stop.of ?_)
local macro_rules | `(tactic| walk_at "binaryOp Add ref ref") => `(tactic| refine Stop.of ?_)
local macro_rules | `(tactic| walk_at "call builtin:len") => `(tactic| refine Stop.of ?_)
local macro_rules | `(tactic| walk_at "last subscriptTail") => `(tactic| refine Stop.of ?_)
local macro_rules | `(tactic| walk_at "subscriptTail") => `(tactic| refine Stop.of ?_)
local macro_rules | `(tactic| walk_at "call ref") => `(tactic| refine Stop.of ?_)
local macro_rules | `(tactic| walk_at "compareOp Eq ref ref") => `(tactic| refine Stop.of ?_)
theorem law_holds : PySem.Challenge.rw_zn0014_01.Holds := by
  w_top off
  refine holds_law law_said fun said => hd ⟨said, ?_⟩
  clear said
  k_fill
  intro w s₀ s₁ mg mb G Y fa o pm cd doc dV kV ho hd' hcd hD hmg hg args vals as hpre hlay hrd hwl hlo
  have KX := kIn_of Y
  have V := (Ground.X G).2
  refine Ground.open G ?_
  intro T B D TE TW
  obtain ⟨cA, pA, he, B0⟩ := based_of_top T rfl hmg ho hd'
  have he' : cd = _ := he
  subst he'
  clear he
  wrow_args hpre hlay hrd hwl hlo
  rename_i ns hs0 hlay0 hL0 hr0 hl20 xa1 xa2 sc vs xa6 hL ra w1 r0 hI hr hc1 hc2
  clear hs0 hlay0 hL0 hr0 hl20 ra w1 r0 hr hc2
  refine wpS_call ?_
  have he := Dflts.none hD rfl; subst he; have he := Dflts.noKw hD; subst he
  refine call_cellsS (by decide) ho (fd_plain hd') (Top.nolimit T) hcd rfl rfl (by decide +kernel) fun h₁ tk₁ cells F N X0 => ?_
  generalize s₁.heap.objs.size = L0 at F N X0 ⊢
  obtain ⟨oA, oB, oC, rfl, dA, dB, dC⟩ := CellsAre.three X0
  clear X0 hD hd' hcd ho
  replace dA : oA.data = .cell none := dA
  replace dB : oB.data = .cell none := dB
  replace dC : oC.data = .cell none := dC
  replace F : Fr s₁.heap L0 h₁ (fun y => if y = Str.ofString "script" then some (.ref sc) else none) := F
  refine hideS fun RQ hRQ => ?_
  refine wpS_execs_cons (wpS_Assign_Tuple (wpS_of ?_) rfl rfl)
  show wpAny _ (tA (callerA.depth + 1) 7 (some []) [envOfC _ _ _ _ _]) _ _ _ _
  refine hide fun R1 hR1 => ?_
  k_dflt (refine lcE (L := L0) (m := fun y => if y = Str.ofString "script" then some (.ref sc) else none) (h₀ := s₁.heap) (by rfl) (by decide) (by rfl) (by decide) (by rfl) (by intro _; rfl) ?_)
  k_steps
  unfold Stop
  have hn63 : ns.length ≤ 63 := by omega
  have hvz : vs.toArray.size ≤ sizeLine := by rw [List.size_toArray, hI.length, sizeLine_eq]; omega
  refine kmk_slice_ints (s := ⟨_, _, _, _, _⟩) F N (let ⟨o, a, b⟩ := hL; ⟨o, F.keep _ _ a, b⟩) .none (.int _ _) hI (kmk_upto hI (by decide)) rfl (fun D1 ws1 h2 F2 N2 l2 hI2 _ _ => ?_) (by with_unfolding_all rfl) (by intro _; with_unfolding_all rfl) hvz
  k_steps
  unfold Stop
  rename_i LI h3 F3 N3 l3
  refine len_list (items := vs.toArray) (let ⟨o, a, b⟩ := hL; ⟨o, F3.keep _ _ a, b⟩) (by rw [List.size_toArray, hI.length]; omega) ?_
  k_steps
  unfold Stop
  have hvl' : ((vs.toArray.size : Nat) : Int).toNat = ns.length := by rw [List.size_toArray, hI.length]; omega
  refine kba_turn (value' := PySem.Expr.Name (PySem.Str.ofString "_") ⟨0, 0, 0, 0⟩) (fun _ => rfl) ?_
  refine kmk_slice_ints (s := ⟨_, _, _, _, _⟩) F3 N3 (vs := [.int 0 _, .int 23 _, .int 18 _]) (PySem.IsL.isList (N3 _ List.mem_cons_self).1) (.int _ _) .none (.cons _ _ (.cons _ _ (.cons _ _ .nil))) (kmk_from (.cons _ _ (.cons _ _ (.cons _ _ .nil))) (by omega)) rfl (fun D2 ws2 h4 F4 N4 l4 hI4 _ _ => ?_) (by with_unfolding_all rfl) (by intro _; with_unfolding_all rfl) (by rw [sizeLine_eq]; exact (by decide : 3 ≤ 16777216))
  k_steps
  unfold Stop
  rw [hvl'] at hI4
  refine add_lists_ints F4 N4 (PySem.IsL.isList (N4 _ (List.mem_cons_of_mem _ (List.mem_cons_of_mem _ List.mem_cons_self))).1) (PySem.IsL.isList (N4 _ List.mem_cons_self).1) hI2 hI4 (fun h5 F5 N5 hI5 => ?_) (by rw [sizeLine_eq, List.length_take, List.length_drop]; simp only [List.length_cons, List.length_nil]; omega)
  generalize h4.objs.size = D3 at N5
  k_steps
  obtain ⟨y0, x0, z0, h3ns⟩ := three_of ns
  rw [show Int.toNat 3 = 3 from rfl, h3ns] at hI5
  obtain ⟨ty, tx, tz, hw3⟩ := ints_three hI5
  rw [hw3] at N5
  replace N5 : News s₁.heap L0 h5 [(D3, listOf #[.int y0 ty, .int x0 tx, .int z0 tz] 0), (L0 + 1 + 1 + 1, oA), (L0 + 1 + 1, oB), (L0 + 1, oC)] := fun q hq => N5 q (by
    simp only [List.mem_cons, List.not_mem_nil, or_false] at hq ⊢
    rcases hq with rfl | hq | hq | hq
    · exact .inl rfl
    · simp [hq]
    · simp [hq]
    · simp [hq])
  clear F4 N4 F3 N3 hI4 hI5 hI2 l4 l3 l2 hw3
  refine it_list rfl F5 N5 (.inr ⟨_, List.mem_cons_self, rfl, _, rfl⟩) fun I g St src F6 N6 off => lc_map ([y0.fmod 1000000000, x0.fmod 1000000000, z0.fmod 1000000000].map fun n => Value.int n 0) (by rfl) (show 3 ≤ 1000 by decide) rfl src F6 N6 off (.inr ⟨_, List.mem_cons_self, rfl, _, rfl⟩) ?el ?fin
  case el =>
    intro C Dx j v ys2 oI2 oC2 h tk hi hP hC F2 N2
    refine hideP fun G hG => ?_
    obtain ⟨u, hC1, hC2⟩ := hC
    obtain ⟨a, ta, hv, ho⟩ : ∃ a ta, v = .int a ta ∧ some (Value.int (a.fmod 1000000000) 0) = ([y0.fmod 1000000000, x0.fmod 1000000000, z0.fmod 1000000000].map fun n => Value.int n 0)[j]? := by
      have hj : j = 0 ∨ j = 1 ∨ j = 2 := by have : j < 3 := hi; omega
      rcases hj with rfl | rfl | rfl
      · exact ⟨y0, ty, (Option.some.inj hP).symm, rfl⟩
      · exact ⟨x0, tx, (Option.some.inj hP).symm, rfl⟩
      · exact ⟨z0, tz, (Option.some.inj hP).symm, rfl⟩
    replace hC2 := hC2.trans (congrArg some hv)
    refine hG ?_
    clear hG G hv hP
    k_steps
    exact MapEnd.intro F2 N2 (fun _ h => h) ho
  case fin =>
  intro ys hys D4 h7 tk7 F7 N7 off7
  refine hR1 _ _ ?_
  clear hR1 R1
  refine hideP fun G hG => ?_
  obtain ⟨ty2, tx2, tz2, hys2⟩ := ints3 hys
  replace N7 : News s₁.heap L0 h7 [(D4, lst [.int (y0.fmod 1000000000) ty2, .int (x0.fmod 1000000000) tx2, .int (z0.fmod 1000000000) tz2]), (D3, listOf #[.int y0 ty, .int x0 tx, .int z0 tz] 0), (L0 + 1 + 1 + 1, oA), (L0 + 1 + 1, oB), (L0 + 1, oC)] := hys2 ▸ N7
  replace N7 := show News s₁.heap L0 h7 [(D4, lst [.int (y0.fmod 1000000000) ty2, .int (x0.fmod 1000000000) tx2, .int (z0.fmod 1000000000) tz2]), (L0 + 1 + 1 + 1, oA), (L0 + 1 + 1, oB), (L0 + 1, oC)] from News_pick N7 5 [0, 2, 3, 4]
  have yb : 0 ≤ y0.fmod 1000000000 ∧ y0.fmod 1000000000 < 1000000000 := ⟨Int.fmod_nonneg_of_pos _ (by decide), Int.fmod_lt_of_pos _ (by decide)⟩
  have xb : 0 ≤ x0.fmod 1000000000 ∧ x0.fmod 1000000000 < 1000000000 := ⟨Int.fmod_nonneg_of_pos _ (by decide), Int.fmod_lt_of_pos _ (by decide)⟩
  have zb : 0 ≤ z0.fmod 1000000000 ∧ z0.fmod 1000000000 < 1000000000 := ⟨Int.fmod_nonneg_of_pos _ (by decide), Int.fmod_lt_of_pos _ (by decide)⟩
  clear hys
  generalize y0.fmod 1000000000 = y at yb N7 F7
  generalize x0.fmod 1000000000 = x at xb N7 F7
  generalize z0.fmod 1000000000 = z at zb N7 F7
  refine hG ?_
  clear hG G hys2 F5 N5 F6 N6 src off off7 h3ns hvl'
  k_steps
  rename_i h9 oC2 F9 N9 dC2
  replace N9 := show News s₁.heap L0 h9 [(L0 + 1 + 1 + 1, oA), (L0 + 1 + 1, oB), (L0 + 1, oC2)] from News_drop 1 N9
  replace F9 : Fr s₁.heap L0 h9 (fun q => if q = Str.ofString "x" then some (.int x tx2) else if q = Str.ofString "y" then some (.int y ty2) else if q = Str.ofString "script" then some (.ref sc) else none) := F9
  refine wpS_execs_any ?_
  k_steps
  rename_i DT _ l10 _ _ h10 oB2 F10 N10 dB2
  replace N10 : News s₁.heap L0 h10 [(L0 + 1 + 1 + 1, oA), (L0 + 1 + 1, oB2), (L0 + 1, oC2)] := News_sub N10 (all_cons (by k_mem) (all_cons (by k_mem) (all_cons (by k_mem) all_nil)))
  have hsi := quarter_mod (z.fdiv 3)
  have hvi := quarter_mod (z.fdiv 12)
  generalize 1 + (z.fdiv 3).fmod 4 = si at hsi F10 N10
  generalize 1 + (z.fdiv 12).fmod 4 = vi at hvi dB2
  obtain ⟨tsi, F10⟩ : ∃ tsi, Fr s₁.heap L0 h10 (fun q => if q = Str.ofString "share" then some (.int si tsi) else if q = Str.ofString "x" then some (.int x tx2) else if q = Str.ofString "y" then some (.int y ty2) else if q = Str.ofString "script" then some (.ref sc) else none) := ⟨_, F10⟩
  obtain ⟨tvi, dB2⟩ : ∃ tvi, oB2.data = .cell (some (.int vi tvi)) := ⟨_, dB2⟩
  refine wpS_execs_any ?_
  k_steps
  have hok := low_ok (vi := vi) hsi
  refine PyProof.Rows.mul_int ?_ hok
  k_steps
  dsimp only at *
  rename_i h11 oA2 F11 N11 dA2
  obtain ⟨tlo, dA2⟩ : ∃ tlo, oA2.data = .cell (some (.int (10 * vi * (4 - si)) tlo)) := ⟨_, dA2⟩
  obtain ⟨c, hc, hcz⟩ := wheel_mod z
  refine wpS_execs_any ?_
  k_steps
  unfold Stop
  refine hide fun R2 hR2 => ?_
  k_dflt (refine lcA (L := L0) (m := fun q => if q = Str.ofString "share" then some (.int si tsi) else if q = Str.ofString "x" then some (.int x tx2) else if q = Str.ofString "y" then some (.int y ty2) else if q = Str.ofString "script" then some (.ref sc) else none) (h₀ := s₁.heap) (by rfl) (by rfl) (by rfl) (by decide) (by rfl) (by decide) (by rfl) (by rfl) (by rfl) (by intro _; rfl) ?_)
  k_steps
  rename_i hr12 hF12 hN12 hk12
  refine it_range (n := 3) rfl (by k_asm) (by k_asm) hr12 (small_one (by decide) (by decide) (by decide) (by decide)) (by rfl) fun I2 g12 St12 src12 F12 N12 off12 => lc_map ([oct vi si c 0, oct vi si c 1, oct vi si c 2].map fun n => Value.int n 0) (by rfl) (by decide) rfl src12 F12 N12 off12 trivial ?el2 ?fin2
  case el2 =>
    intro C Dx j v ys2 oI2 oC5 h tk hi hP hC F2 N2
    refine hideP fun G hG => ?_
    obtain ⟨tj, hv⟩ := hP
    obtain ⟨u, hC1, hC2⟩ := hC
    replace hC2 := hC2.trans (congrArg some hv)
    refine hG ?_
    clear hG G hv
    k_steps
    all_goals first
      | exact MapEnd.intro (by k_asm) (by k_asm) (fun _ h => h) (oct_hi hi hcz (by first | assumption | omega))
      | exact MapEnd.intro (by k_asm) (by k_asm) (fun _ h => h) (oct_lo hi hcz (by first | assumption | omega))
  case fin2 =>
  intro ys hys D13 h13 tk13 F13 N13 off13
  refine hR2 _ _ ?_
  clear hR2 R2
  refine hideP fun G hG => ?_
  obtain ⟨to0, to1, to2, hys2⟩ := ints3 hys
  replace N13 : News s₁.heap L0 h13 [(D13, lst [.int (oct vi si c 0) to0, .int (oct vi si c 1) to1, .int (oct vi si c 2) to2]), (L0 + 1 + 1 + 1, oA2), (L0 + 1 + 1, oB2), (L0 + 1, oC2)] := hys2 ▸ N13
  refine hG ?_
  clear hG G hys2
  k_steps
  dsimp only at *
  clear hr12 hF12 hN12 hk12 src12 F12 N12 off12 hys St12
  have B1 : Below callerA s₁.heap [] s₁.heap := below_caller s₁.heap
  obtain ⟨fs, qsb⟩ := quarter_bits hsi
  obtain ⟨fv, qvb⟩ := quarter_bits hvi
  refine wpS_execs_cons (wpS_Assign_Name (wpS_Call_ ?_) rfl)
  k_steps
  refine wpS_callDef (wpS_args_cons (wpS_of ?_))
  k_steps
  unfold Stop
  refine hide fun R3 hR3 => ?_
  refine useCon (c_places (y := y)) B1 F13 KX N13 T rfl rfl (by decide +kernel) (by decide +kernel) trivial ?_
  rintro r tl h14 tk14 F14 N14 lt14 st14 ⟨PA, a1, a2, a3, a4, rfl, rfl⟩
  refine hR3 _ _ ?_
  clear hR3 R3
  refine wpS_of ?_
  k_steps
  unfold Stop
  refine hide fun R4 hR4 => ?_
  refine useCon (c_places (y := x)) B1 F14 KX N14 T rfl rfl (by decide +kernel) (by decide +kernel) trivial ?_
  rintro r tl h15 tk15 F15 N15 lt15 st15 ⟨PB, b1, b2, b3, b4, rfl, rfl⟩
  refine hR4 _ _ ?_
  clear hR4 R4
  k_steps
  refine hideP fun G hG => ?_
  obtain ⟨p0, q0, e0⟩ := mod_nat y (n := 4) (by decide)
  replace q0 : p0 < 4 := Int.ofNat_lt.mp q0
  obtain ⟨p1, q1, e1⟩ := mod_nat (y.fdiv 4) (n := 3) (by decide)
  replace q1 : p1 < 3 := Int.ofNat_lt.mp q1
  obtain ⟨p2, q2, e2⟩ := mod_nat (y.fdiv 12) (n := 2) (by decide)
  replace q2 : p2 < 2 := Int.ofNat_lt.mp q2
  obtain ⟨m0, r0, f0⟩ := mod_nat x (n := 4) (by decide)
  replace r0 : m0 < 4 := Int.ofNat_lt.mp r0
  obtain ⟨m1, r1, f1⟩ := mod_nat (x.fdiv 4) (n := 3) (by decide)
  replace r1 : m1 < 3 := Int.ofNat_lt.mp r1
  obtain ⟨m2, r2, f2⟩ := mod_nat (x.fdiv 12) (n := 2) (by decide)
  replace r2 : m2 < 2 := Int.ofNat_lt.mp r2
  refine hG ?_
  clear hG G
  generalize Float64.ofFrac (decide (si < 0) != decide ((4 : Int) < 0)) si.natAbs (Int.natAbs 4) = sb at qsb ⊢
  generalize Float64.ofFrac (decide (vi < 0) != decide ((4 : Int) < 0)) vi.natAbs (Int.natAbs 4) = vb at qvb ⊢
  rw [hcz]
  replace N15 : News s₁.heap L0 h15 [(PB, listOf #[.int (m0 : Nat) b1, .int (m1 : Nat) b2, .int (m2 : Nat) b3, .int 0 b4] 0), (PA, listOf #[.int (p0 : Nat) a1, .int (p1 : Nat) a2, .int (p2 : Nat) a3, .int 0 a4] 0), (D13, lst [.int (oct vi si c 0) to0, .int (oct vi si c 1) to1, .int (oct vi si c 2) to2]), (L0 + 1 + 1 + 1, oA2), (L0 + 1 + 1, oB2), (L0 + 1, oC2)] := by
    rw [← e0, ← e1, ← e2, ← f0, ← f1, ← f2]; exact N15
  clear F13 N13 F14 N14 lt14 lt15 st14 st15 fs fv
  obtain ⟨PP, Bs⟩ := callers_based T KX
  refine ⟨fun_told (KX.keeps F15.keep), ?_⟩
  refine hideS fun R5 hR5 => ?_
  refine useConG (c_told (p0 := p0) (p1 := p1) (p2 := p2) (p3 := 0) (m0 := m0) (m1 := m1) (m2 := m2) hc q0 q1 q2 (by decide) r0 r1 r2 qsb qvb (rows_ok hc q0 q1 q2 r0 r1 r2) (words_nodup hc q0 q1 q2) (by rw [undone_len]; exact (by decide : 16 ≤ 16)))
    B1 F15 KX N15 T Bs (AllBare.of_eq hg) rfl rfl (by decide +kernel) (by decide +kernel) ?pre ?_
  case pre => exact ⟨⟨a1, a2, a3, a4, 0, (N15 _ (List.mem_cons_of_mem _ List.mem_cons_self)).1⟩, ⟨b1, b2, b3, _, 0, (N15 _ List.mem_cons_self).1⟩⟩
  intro r tlT s2 hb2 more Bs2 F16 N16 ne16 X2 T2 B2 bare2 os2 keep2 hpT
  refine hideP fun G hG => ?_
  obtain ⟨R, oR, kvs, hrR, hR, sysR, hoR, hTT⟩ := hpT
  obtain ⟨tp2, lo2, T2⟩ := T2
  refine hG ?_
  clear hG G
  subst hrR
  refine hR5 _ _ ?_
  clear hR5 R5
  k_steps
  rename_i h17 F17 N17
  replace N17 : News hb2 L0 h17 ((D13, lst [.int (oct vi si c 0) to0, .int (oct vi si c 1) to1, .int (oct vi si c 2) to2]) :: (L0 + 1 + 1 + 1, oA2) :: (L0 + 1 + 1, oB2) :: (L0 + 1, oC2) :: tlT) := News_sub N17 (all_cons (List.mem_append_right _ (by k_mem)) (all_cons (List.mem_append_right _ (by k_mem)) (all_cons (List.mem_append_right _ (by k_mem)) (all_cons (List.mem_append_right _ (by k_mem)) fun q h => List.mem_append_left _ h))))
  clear ne16 F15 N15
  refine wpS_execs_any ?_
  k_steps
  unfold Stop
  refine hide fun R6 hR6 => ?_
  refine useCon (c_places (y := y)) B2 F17 X2 N17 T2 rfl rfl (by decide +kernel) (by decide +kernel) trivial ?_
  rintro r tl h18 tk18 F18 N18 lt18 st18 ⟨PC, a5, a6, a7, a8, rfl, rfl⟩
  refine hR6 _ _ ?_
  clear hR6 R6
  rw [e0, e1, e2] at N18
  k_steps
  unfold Stop
  refine hide fun R7 hR7 => ?_
  refine useCon (c_cuts (p0 := p0) (p1 := p1) (p2 := p2) (p3 := 0) q0 q1 q2 (by decide)) B2 F18 X2 N18 T2 rfl rfl (by decide +kernel) (by decide +kernel) ⟨a5, a6, a7, a8, 0, (N18 _ List.mem_cons_self).1⟩ ?_
  intro r tl19 h19 tk19 F19 N19 lt19 st19 hp19
  refine hideP fun G hG => ?_
  obtain ⟨C1, vs1, n1, hrC1, hC1, hp1⟩ := hp19
  replace N19 := News_mid N19
  obtain ⟨TL1, hTL1, hTT1⟩ : ∃ TL, TL = tl19 ++ tlT ∧ ∀ q ∈ tlT, q ∈ TL := ⟨_, rfl, fun q h => List.mem_append_right _ h⟩
  replace N19 : News hb2 L0 h19 ((D13, lst [.int (oct vi si c 0) to0, .int (oct vi si c 1) to1, .int (oct vi si c 2) to2]) :: (L0 + 1 + 1 + 1, oA2) :: (L0 + 1 + 1, oB2) :: (L0 + 1, oC2) :: TL1) := hTL1 ▸ N19
  replace hC1 : (C1, listOf vs1.toArray n1) ∈ TL1 := hTL1 ▸ List.mem_append_left _ hC1
  replace hp1 := hp1.mono (get' := fun a o => (a, o) ∈ TL1) fun a o h => hTL1 ▸ List.mem_append_left _ h
  refine hG ?_
  clear hG G hTL1
  subst hrC1
  refine hR7 _ _ ?_
  clear hR7 R7
  clear F18 N18 lt18 lt19 st18 st19 F17 N17
  k_steps
  unfold Stop
  refine hide fun R8 hR8 => ?_
  refine useCon (c_places (y := x)) B2 F19 X2 N19 T2 rfl rfl (by decide +kernel) (by decide +kernel) trivial ?_
  rintro r tl h20 tk20 F20 N20 lt20 st20 ⟨PD, b5, b6, b7, b8, rfl, rfl⟩
  refine hR8 _ _ ?_
  clear hR8 R8
  rw [f0, f1, f2] at N20
  k_steps
  unfold Stop
  refine hide fun R9 hR9 => ?_
  refine useCon (c_cuts (p0 := m0) (p1 := m1) (p2 := m2) (p3 := 0) r0 r1 r2 (by decide)) B2 F20 X2 N20 T2 rfl rfl (by decide +kernel) (by decide +kernel) ⟨b5, b6, b7, b8, 0, (N20 _ List.mem_cons_self).1⟩ ?_
  intro r tl21 h21 tk21 F21 N21 lt21 st21 hp21
  refine hideP fun G hG => ?_
  obtain ⟨C2, vs2, n2, hrC2, hC2, hp2⟩ := hp21
  replace N21 := News_mid N21
  obtain ⟨TL, hTL, hTT2, hC1'⟩ : ∃ TL, TL = tl21 ++ TL1 ∧ (∀ q ∈ tlT, q ∈ TL) ∧ (C1, listOf vs1.toArray n1) ∈ TL := ⟨_, rfl, fun q h => List.mem_append_right _ (hTT1 q h), List.mem_append_right _ hC1⟩
  replace N21 : News hb2 L0 h21 ((D13, lst [.int (oct vi si c 0) to0, .int (oct vi si c 1) to1, .int (oct vi si c 2) to2]) :: (L0 + 1 + 1 + 1, oA2) :: (L0 + 1 + 1, oB2) :: (L0 + 1, oC2) :: TL) := hTL ▸ N21
  replace hC2 : (C2, listOf vs2.toArray n2) ∈ TL := hTL ▸ List.mem_append_left _ hC2
  replace hp2 := hp2.mono (get' := fun a o => (a, o) ∈ TL) fun a o h => hTL ▸ List.mem_append_left _ h
  replace hp1 := hp1.mono (get' := fun a o => (a, o) ∈ TL) fun a o h => hTL ▸ List.mem_append_right _ h
  refine hG ?_
  clear hG G hTL hTT1 hC1
  subst hrC2
  refine hR9 _ _ ?_
  clear hR9 R9
  clear F19 N19 F20 N20 lt20 lt21 st20 st21
  k_steps
  unfold Stop
  have gC1 := (N21 (C1, listOf vs1.toArray n1) (.tail _ (.tail _ (.tail _ (.tail _ hC1'))))).1
  have gC2 := (N21 (C2, listOf vs2.toArray n2) (.tail _ (.tail _ (.tail _ (.tail _ hC2))))).1
  refine add_lists F21 N21 (vs := vs1) (ws := vs2) (PySem.IsL.isList gC1) (PySem.IsL.isList gC2) (fun h22 F22 N22 => ?_) (by rw [hp1.1, hp2.1, cuts_len, cuts_len, sizeLine_eq]; decide)
  dsimp only at N22 ⊢
  generalize h21.objs.size = CU at N22 ⊢
  replace N22 : News hb2 L0 h22 ((D13, lst [.int (oct vi si c 0) to0, .int (oct vi si c 1) to1, .int (oct vi si c 2) to2]) :: (CU, listOf (vs1 ++ vs2).toArray 0) :: (L0 + 1 + 1 + 1, oA2) :: (L0 + 1 + 1, oB2) :: (L0 + 1, oC2) :: TL) := News_pick N22 5 [1, 0, 2, 3, 4]
  clear F21 N21
  k_steps
  unfold Stop
  have zz := oct_facts hvi hsi
  refine hide fun R10 hR10 => ?_
  refine useCon (c_text (ta := to0) (tb := to1) (tc := to2) (lt256 (zz.1 c 0)) (lt256 (zz.1 c 1)) (lt256 (zz.1 c 2))) B2 F22 X2 N22 T2 rfl rfl (by decide +kernel) (by decide +kernel) ⟨_, (N22 _ List.mem_cons_self).1, rfl, _, rfl⟩ ?_
  rintro r tl h23 tk23 F23 N23 lt23 st23 ⟨⟨t23, rfl⟩, rfl⟩
  refine hR10 _ _ ?_
  clear hR10 R10
  rw [show (⟨#[(oct vi si c 0).toNat, (oct vi si c 1).toNat, (oct vi si c 2).toNat]⟩ : Str) = lt vi si c from rfl]
  replace N23 := show News hb2 L0 h23 ((D13, lst [.int (oct vi si c 0) to0, .int (oct vi si c 1) to1, .int (oct vi si c 2) to2]) :: (CU, listOf (vs1 ++ vs2).toArray 0) :: (L0 + 1 + 1 + 1, oA2) :: (L0 + 1 + 1, oB2) :: (L0 + 1, oC2) :: TL) from N23
  rw [hcz]
  clear F22 N22 lt23 st23
  k_steps
  unfold Stop
  have hcs : ∀ e ∈ cutsOf [p0, p1, p2, 0] ++ cutsOf [m0, m1, m2, 0], e.1 < 6 ∧ e.2 < 6 := fun e he => by
    rcases List.mem_append.mp he with he | he
    · exact cuts_lt q0 q1 q2 e he
    · exact cuts_lt r0 r1 r2 e he
  have hcl : (cutsOf [p0, p1, p2, 0] ++ cutsOf [m0, m1, m2, 0]).length ≤ 8 := by rw [List.length_append, cuts_len, cuts_len]; decide
  refine hide fun R11 hR11 => ?_
  refine useCon (c_due (cs := cutsOf [p0, p1, p2, 0] ++ cutsOf [m0, m1, m2, 0]) (light := lt vi si c) hc hcs hcl) B2 F23 X2 N23 T2 rfl rfl (by decide +kernel) (by decide +kernel) ?pre2 ?_
  case pre2 =>
    refine ⟨vs1 ++ vs2, 0, (N23 _ (List.mem_cons_of_mem _ List.mem_cons_self)).1, PairsIn.append (hp1.mono fun a o h => ?_) (hp2.mono fun a o h => ?_)⟩
    · exact (N23 (a, o) (.tail _ (.tail _ (.tail _ (.tail _ (.tail _ h)))))).1
    · exact (N23 (a, o) (.tail _ (.tail _ (.tail _ (.tail _ (.tail _ h)))))).1
  intro r tlD h24 tk24 F24 N24 lt24 st24 hpD
  refine hideP fun G hG => ?_
  obtain ⟨RD, oRD, body, aL, u1, u2, u3, hrD, hRD, sysRD, hoRD, hTD, haL⟩ := hpD
  refine hG ?_
  clear hG G
  subst hrD
  refine hR11 _ _ ?_
  clear hR11 R11
  k_steps
  rename_i h25 F25 N25
  refine wpS_execs_any ?_
  k_steps
  unfold Stop
  have memT : ∀ q ∈ tlT, q ∈ tlD ++ ((D13, lst [.int (oct vi si c 0) to0, .int (oct vi si c 1) to1, .int (oct vi si c 2) to2]) :: (CU, listOf (vs1 ++ vs2).toArray 0) :: (L0 + 1 + 1 + 1, oA2) :: (L0 + 1 + 1, oB2) :: (L0 + 1, oC2) :: TL) := fun q hq =>
    List.mem_append_right _ (.tail _ (.tail _ (.tail _ (.tail _ (.tail _ (hTT2 q hq))))))
  have fin : ∀ (A : Around) (s : Shared), s.heap = h25 → A.in1.units + 64 < cLine → kvs.length = (stored body (lt vi si c) (.ref aL)).length ∧ KeqHits A.in1 s (stored body (lt vi si c) (.ref aL)) kvs true := by
    intro A s e hu
    subst e
    exact told_due (hTT.mono fun a o h => (N25 (a, o) (memT _ h)).1) (isDict_nodup hoR) (hTD.mono fun a o h => (N25 (a, o) (List.mem_append_left _ h)).1) (N25 _ (List.mem_append_left _ haL)).1
      (told_perm hc q0 q1 q2 r0 r1 r2) (due_some hc q0 q1 q2 r0 r1 r2) (due_nodup hc) (fun r hr => by
        obtain ⟨way, _, rfl, _⟩ := due_way hr
        exact word_ne (by simp [rowM])) (lt_shaped hvi hsi hc) hu
  refine keq_pairs (ka := kvs) (kb := stored body (lt vi si c) (.ref aL)) (r := true) N25 (memT _ hR) (List.mem_append_left _ hRD) hoR hoRD sysR sysRD (fin callerA ⟨h25, s2.gens, s2.drawn, 0, s2.os⟩ rfl (by decide +kernel)).1 (by k_units) (fin _ _ rfl (by k_units)).2 ?_
  k_steps
  refine hRQ _ _ ⟨_, rfl, ?_⟩
  exact goodWG_reads Bs2 F25 bare2 (raisesW_false (by wrow_none_raised)) (readsW_of_reads (.bool true)) (by first | exact unshared_nil | exact fun h => absurd h (by decide)) (post_ok ns) os2
end Mine
end
theorem PySem.Challenge.cw_zn0014_01_holds : PySem.Challenge.rw_zn0014_01.Holds :=
  Mine.law_holds
