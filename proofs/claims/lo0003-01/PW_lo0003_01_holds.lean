import PyProof.Rows.All
import Wide.All
import OpenK.AllK
import Wide.FinOn
import KE.KItem
import KE.KWords
import PyProof.StrLawsReplace
import PyProof.ExcFactsAll.ValueError
import KE.KIntText
import KE.IntTextText
import PyProof.ExcStrAll.ValueError
import Lean
import PySem.Challenge.RW_lo0003_01
open PySem PySem.W PyProof.Rows PyProof
set_option Elab.async false
set_option maxRecDepth 100000
namespace Mine
/-- a claim's caller is at work beneath (asked for when b) -/
noncomputable def Led (b : Bool) (Γ : Ctx) : Prop := b = true → (Γ.code.isCaller || Γ.below.any fun x => x.1.isCaller) = true
noncomputable def LedB (b : Bool) (Γ : Ctx) : Prop := b = true → (Γ.below.any fun x => x.1.isCaller) = true
theorem LedB.led {b : Bool} {Γ : Ctx} (h : LedB b Γ) : Led b Γ := fun e => by rw [h e, Bool.or_true]
theorem Led.enter {b : Bool} {Γ : Ctx} (h : Led b Γ) (c : Code) (hd : Option Value) (p : Pos) : LedB b (Γ.enter c hd p) := fun e => by
  show (((Γ.code, p) :: Γ.below).any fun x => x.1.isCaller) = true
  rw [List.any_cons]; exact h e
noncomputable def wpG (b : Bool) {α : Type} (M : Model) (A : Around) (t : Sem α) (Q : α → Shared → Prop) (E : Value → Shared → Prop) (s : Shared) : Prop :=
  ∀ Γ p, Γ.In A → Led b Γ → Sem.wp M Γ t (fun a _ s' => Q a s') (fun e _ s' => E e s') p s
noncomputable def codeG (b : Bool) (M : Model) (A : Around) (c : Code) (R : Result → Shared → Prop) (s : Shared) : Prop :=
  ∀ Γ p, Γ.code = c → Γ.Below A → LedB b Γ → wpCode M Γ R p s
section
variable {α β : Type} {b : Bool} {M : Model} {A : Around} {E : Value → Shared → Prop} {s : Shared}
theorem wpG.of {t : Sem α} {Q : α → Shared → Prop} (h : wpAny M A t Q E s) : wpG b M A t Q E s := fun Γ p hΓ _ => h Γ p hΓ
theorem wpG.any {t : Sem α} {Q : α → Shared → Prop} (h : wpG false M A t Q E s) : wpAny M A t Q E s := fun Γ p hΓ => h Γ p hΓ fun e => nomatch e
theorem wpG.mono {t : Sem α} {Q Q' : α → Shared → Prop} {E' : Value → Shared → Prop} (h : wpG b M A t Q E s) (hQ : ∀ a s, Q a s → Q' a s) (hE : ∀ e s, E e s → E' e s) : wpG b M A t Q' E' s :=
  fun Γ p hΓ hl => Sem.wp_mono M Γ t (fun a _ s => hQ a s) (fun e _ s => hE e s) p s (h Γ p hΓ hl)
theorem wpG.anyMono {t : Sem α} {Q Q' : α → Shared → Prop} {E' : Value → Shared → Prop} (h : wpG false M A t Q E s) (hQ : ∀ a s, Q a s → Q' a s) (hE : ∀ e s, E e s → E' e s) : wpAny M A t Q' E' s := wpAny_mono h.any hQ hE
theorem wpG.pure {a : α} {Q : α → Shared → Prop} (h : Q a s) : wpG b M A (Pure.pure a) Q E s := .of (wpAny_pure h)
theorem wpG.bind {m : Sem α} {f : α → Sem β} {Q : β → Shared → Prop} (h : wpG b M A m (fun a s' => wpG b M A (f a) Q E s') E s) : wpG b M A (m >>= f) Q E s := fun Γ p hΓ hl => by
  rw [Sem.wp_bind']
  exact Sem.wp_mono M Γ m (fun a p' s' h' => h' Γ p' hΓ hl) (fun _ _ _ h' => h') p s (h Γ p hΓ hl)
theorem wpG.onRaise {m : Sem α} {k : Value → Sem Unit} {Q : α → Shared → Prop} (h : wpG b M A m Q (fun e s' => wpAny M A (k e) (fun _ s'' => E e s'') E s') s) : wpG b M A (m.onRaise k) Q E s := fun Γ p hΓ hl => by
  rw [Sem.wp_onRaise]
  exact Sem.wp_mono M Γ m (fun _ _ _ h' => h') (fun e p' s' h' => h' Γ p' hΓ) p s (h Γ p hΓ hl)
theorem wpG.attempt {m : Sem α} {Q : Except Value α → Shared → Prop} (h : wpG b M A m (fun a => Q (.ok a)) (fun e => Q (.error e)) s) : wpG b M A m.attempt Q E s := fun Γ p hΓ hl => by rw [Sem.wp_attempt]; exact h Γ p hΓ hl
theorem wpG.holding {vs : List Value} {m : Sem α} {Q : α → Shared → Prop} (h : wpG b M A m Q E s) : wpG b M A (PySem.holding vs m) Q E s := fun Γ p hΓ hl => by rw [Sem.wp_holding]; exact h Γ p hΓ hl
theorem wpG.keep {vs : List Value} {m : Sem α} {Q : α → Shared → Prop} (h : wpG b M A m Q E s) : wpG b M A (m.keep vs) Q E s := fun Γ p hΓ hl => by rw [Sem.wp_keep]; exact h Γ p hΓ hl
theorem wpG.seq {m : Sem α} {f : α → Sem β} {Q : β → Shared → Prop} (h : wpAny M A m (fun a s' => wpG b M A (f a) Q E s') E s) : wpG b M A (m >>= f) Q E s := .bind (.of h)
theorem wpG.stand {pos : Pos} {t : Unit → Sem β} {Q : β → Shared → Prop} (h : wpG b M A (t ()) Q E s) : wpG b M A (standAt pos >>= t) Q E s := .seq (wpAny_standAt h)
theorem wpG.run {c : Code} {h : Option Value} {Q : Flow → Shared → Prop} (hc : codeG b M (A.mark h) c (fun r s' => match r with | .ok f => Q f s' | .error e => E e s') s) (hnb : h ≠ some byPass := by intro x; cases x) : wpG b M A (PySem.run c h) Q E s :=
  fun Γ p hΓ hl => by rw [Sem.wp_run]; exact hc _ p rfl (hΓ.enter c h p hnb) (hl.enter c h p)
theorem wpG.runOwn {env : Env} {c : Code} {h : Option Value} {Q : Flow → Shared → Prop} (hc : codeG b M (A.mark h) c (fun r s' => match r with | .ok f => Q f s' | .error e => cameBackBy M A env E e s') s) (hnb : h ≠ some byPass := by intro x; cases x) : wpG b M A (PySem.runOwn c env h) Q E s := by
  unfold PySem.runOwn
  exact .onRaise (.run hc hnb)
theorem wpG.call {f : Value} {pos : List Value} {kw : List (Str × Value)} {Q : Value → Shared → Prop} (hc : codeG b M A (.call f ⟨pos, kw⟩) (fun r s' => match r with | .ok (.ret v) => Q v s' | .ok _ => False | .error e => E e s') s) : wpG b M A (PySem.call f pos kw) Q E s := fun Γ p hΓ hl => by
  show Sem.wp M Γ (runValue _) _ _ p s
  rw [Sem.wp_runValue]; exact hc _ p rfl (hΓ.enter _ none p (by intro x; cases x)) (hl.enter _ none p)
theorem codeG.tree {c : Code} {R : Result → Shared → Prop} (h : wpG b M (A.under c) (M.den c) (fun fin s' => match fin with | .done f => R (.ok f) s' | .again c' => c'.quiet = true ∧ codeG b M A c' R s') (fun e s' => R (.error e) s') s) : codeG b M A c R s := fun Γ p hc hΓ hl => by
  rw [wpCode_iff_wp, hc]
  refine Sem.wp_mono M Γ _ (fun fin p' s' h' => ?_) (fun _ _ _ h' => h') p s (h Γ p (hc ▸ hΓ.in) hl.led)
  cases fin with
  | done f => exact h'
  | again c' => exact ⟨h'.1, h'.2 (Γ.goto c') p' rfl (hΓ.goto c') hl⟩
theorem codeG.turns {c : Code} {R : Result → Shared → Prop} (hq : c.quiet = true) (I : Nat → Shared → Prop)
    (turn : ∀ n s, I n s → wpG b M (A.under c) (M.den c) (fun fin s' => match fin with
        | .done f => R (.ok f) s'
        | .again c' => (c' = c ∧ ∃ m, m < n ∧ I m s') ∨ (c'.quiet = true ∧ codeG b M A c' R s')) (fun e s' => R (.error e) s') s)
    (n : Nat) (h : I n s) : codeG b M A c R s := by
  induction n using Nat.strongRecOn generalizing s with
  | ind n ih =>
    refine .tree ((turn n s h).mono (fun fin s' hf => ?_) fun _ _ h' => h')
    cases fin with
    | done f => exact hf
    | again c' =>
      rcases hf with ⟨rfl, m, hm, hI⟩ | hf
      · exact ⟨hq, ih m hm hI⟩
      · exact hf
theorem claimed {own : List String} {l : List Code} (h : l.any Code.isCaller = true) : pythonCodeMadeTheCall own l = false := by
  obtain ⟨c, hc, hi⟩ := List.any_eq_true.mp h
  unfold pythonCodeMadeTheCall
  refine Bool.and_eq_false_iff.mpr (.inl (Bool.and_eq_false_iff.mpr (.inl ?_)))
  rw [Bool.not_eq_false']
  refine List.any_eq_true.mpr ⟨c, hc, ?_⟩
  unfold Code.isCaller at hi
  split at hi
  · rfl
  · cases hi
/-- no mark is put where a claim's caller is at work -/
theorem wpG.mark {own : List String} {e : Value} {Q : Unit → Shared → Prop} (h : Q () s) : wpG true M A (markTheRefusal own e) Q E s := fun Γ p _ hl => by
  have hc : (((Γ.code, p) :: Γ.below).map (·.1)).any Code.isCaller = true := by
    rw [List.map_cons, List.any_cons, List.any_map]
    exact hl rfl
  unfold markTheRefusal
  rw [Sem.wp_bind']
  show Sem.wp M Γ (if pythonCodeMadeTheCall own (((Γ.code, p) :: Γ.below).map (·.1)) = true then _ else _) _ _ p s
  rw [if_neg (by rw [claimed hc]; decide)]
  exact h
end
section
variable {b : Bool} {M : Model} {A : Around} {E : Value → Shared → Prop} {s : Shared} {env : Env}
theorem wpG.nil {Q : Flow → Shared → Prop} (h : Q .next s) : wpG b M A (execs [] env) Q E s := .of (wpAny_execs_nil h)
theorem wpG.cons {st : Stmt} {rest : List Stmt} {Q : Flow → Shared → Prop} (h : wpG b M A (exec st env) (fun f s' => match f with | .next => wpG b M A (execs rest env) Q E s' | f => Q f s') E s) : wpG b M A (execs (st :: rest) env) Q E s := fun Γ p hΓ hl => by
  rw [execs_cons, Sem.wp_bind']
  refine Sem.wp_mono M Γ _ (fun f p' s' h' => ?_) (fun _ _ _ h' => h') _ _ (h Γ p hΓ hl)
  cases f <;> first | exact h' Γ p' hΓ hl | exact h'
theorem wpG.ite {test : Expr} {body orelse : List Stmt} {pos : Pos} {Q : Flow → Shared → Prop} (h : wpAny M A (isTrue test env (eval test env)) (fun t s₂ => wpG b M A (execs (if t then body else orelse) env) Q E s₂) E s) : wpG b M A (exec (.If test body orelse pos) env) Q E s := by
  rw [exec_If]
  refine .stand (.seq (wpAny_mono h (fun t s₂ h₂ => ?_) fun _ _ e => e))
  cases t <;> exact h₂
theorem wpG.assign {x : Str} {p pos : Pos} {e : Expr} {Q : Flow → Shared → Prop} (h : wpG b M A (eval e env) (fun v s₁ => wpAny M A (storeName env x v) (fun _ => Q .next) E s₁) E s) (hs : swapsWith e (some (.Name x p)) pos.line env = Pure.pure false) : wpG b M A (exec (.Assign [.Name x p] e pos) env) Q E s := by
  rw [exec_Assign_Name env x p e pos hs]
  exact .stand (.bind (h.mono (fun v s₁ h₁ => .of (wpAny_bind (wpAny_standAt (wpAny_bind (wpAny_bindName (wpAny_mono h₁ (fun _ _ q => wpAny_pure q) fun _ _ e => e)))))) fun _ _ e => e))
theorem wpG.unpack {elts : List Expr} {k : Nat} {tp pos : Pos} {e : Expr} {Q : Flow → Shared → Prop} (h : wpG b M A (eval e env) (fun v s₁ => wpAny M A (PySem.assign (.Tuple elts k tp) env v) (fun _ => Q .next) E s₁) E s)
    (hs : swapsWithSole [.Tuple elts k tp] e pos.line env = Pure.pure false) (hw : swappedStores [.Tuple elts k tp] e env = Pure.pure none) : wpG b M A (exec (.Assign [.Tuple elts k tp] e pos) env) Q E s := by
  rw [exec_Assign, hs]
  refine .stand (.seq (wpAny_pure ?_))
  rw [if_neg (by decide), hw]
  refine .bind (h.mono (fun v s₁ h₁ => .of ?_) fun _ _ e => e)
  refine wpAny_bind (wpAny_pure ?_)
  show wpAny M A (do assignAll v [PySem.assign (.Tuple elts k tp) env]; Pure.pure .next) Q E s₁
  exact wpAny_bind (wpAny_mono h₁ (fun _ _ q => wpAny_pure q) fun _ _ e => e)
theorem wpG.while {test : Expr} {body orelse : List Stmt} {pos : Pos} {Q : Flow → Shared → Prop} (h : codeG b M A (.whileLoop test body orelse env) (fun r s' => match r with | .ok f => Q f s' | .error e => cameBackBy M A env E e s') s) : wpG b M A (exec (.While test body orelse pos) env) Q E s := by
  rw [exec_While]; exact .stand (.runOwn h)
theorem wpG.for {target iter : Expr} {body orelse : List Stmt} {pos : Pos} {Q : Flow → Shared → Prop}
    (h : wpAny M A (eval iter env) (fun x s₁ => wpAny M A (pyIter x) (fun it s₂ => codeG b M A (.forLoop target it body orelse env) (fun r s' => match r with | .ok f => Q f s' | .error e => cameBackBy M A env E e s') s₂) E s₁) E s)
    (hs : ∀ x, foldedSetIterable iter env x = Pure.pure x) : wpG b M A (exec (.For target iter body orelse pos) env) Q E s := by
  rw [exec_For]
  refine .stand (.seq (wpAny_mono h (fun x s₁ h₁ => ?_) fun _ _ e => e))
  rw [hs x]
  exact .seq (wpAny_pure (.stand (.seq (wpAny_holding (wpAny_mono h₁ (fun it s₂ h₂ => .runOwn h₂) fun _ _ e => e)))))
theorem wpG.callName {x : Str} {p pos : Pos} {args : List Expr} {Q : Value → Shared → Prop} (h : wpAny M A (eval (.Name x p) env) (fun f s₁ => wpG b M A (callWith pos f [] (backTo pos (starEach args env)) []) Q E s₁) E s) : wpG b M A (eval (.Call (.Name x p) args [] pos) env) Q E s := by
  show wpG b M A (do callWith pos (← eval (.Name x p) env) [] (backTo pos (starEach args env)) (backToKw pos (keywordEach [] env))) Q E s
  exact .seq h
theorem wpG.callDef {pos : Pos} {a : Addr} {o : Obj} {fd : FuncData} {args : List (Bool × Sem Value)} {Q : Value → Shared → Prop}
    (h : wpAny M A (evalArgs (.ref a) true args []) (fun x s₁ => (s₁.heap.get? a = some o ∧ o.data = .func fd) ∧ wpG b M A (PySem.call (.ref a) x.pos x.kw) Q E s₁) E s) : wpG b M A (callWith pos (.ref a) [] args []) Q E s := by
  unfold callWith
  refine .seq (wpAny_holding (wpAny_mono h (fun x s₁ h₁ => .stand ?_) fun _ _ e => e))
  obtain ⟨⟨ho, hd⟩, hc⟩ := h₁
  have tail : ∀ {t : Sem Value}, wpG b M A t Q E s₁ → wpG b M A (t >>= fun r => PySem.holding [r] point >>= fun _ => Pure.pure r) Q E s₁ :=
    fun ht => .bind (ht.mono (fun r s₂ hr => .seq (wpAny_holding (wpAny_point (.pure hr)))) fun _ _ e => e)
  have key : wpAny M A (keeperOf (.ref a)) (fun k s₂ => k = .frame ∧ s₂ = s₁) E s₁ := by
    unfold keeperOf
    refine wpAny_bind (wpAny_load ho ?_)
    rw [hd]; exact wpAny_pure ⟨rfl, rfl⟩
  cases hs : args.any (·.1) <;> simp only [List.any_nil, Bool.or_false] <;> refine .seq (wpAny_mono key (fun k s₂ hk => ?_) fun _ _ e => e) <;> obtain ⟨rfl, rfl⟩ := hk
  · dsimp only
    split
    · exact tail hc
    · exact tail (by unfold callMarked; exact .keep hc)
  · exact tail (by unfold callMarked; exact .keep hc)
end
section
variable {b : Bool} {prog : Program} {w : World} {A : Around} {E : Value → Shared → Prop} {s : Shared} {env : Env} {R : Result → Shared → Prop}
theorem wpG.noted {α : Type} {M : Model} {m : Sem α} {Q : α → Shared → Prop} (h : wpG b M A m Q (notedBy M A env E) s) : wpG b M A (m.onRaise fun x => do noteFrame x env; theTreesLotGoes x) Q E s :=
  .onRaise (h.mono (fun _ _ q => q) fun _ _ hx => wpAny_bind (wpAny_mono hx (fun _ _ e => wpAny_theTreesLotGoes e) fun _ _ e => e))
theorem codeG.block {stmts : List Stmt} (h : wpG b (model prog w) A (execs stmts env) (fun f s' => R (.ok f) s') (notedBy (model prog w) A env fun e s' => R (.error e) s') s) : codeG b (model prog w) A (.block stmts env) R s := by
  refine .tree ?_
  show wpG b _ _ (do return Fin.done (← (execs stmts env).onRaise (fun x => do noteFrame x env; theTreesLotGoes x))) _ _ s
  exact .bind (.noted (h.mono (fun f s' h' => .pure h') fun _ _ h' => h'))
theorem codeG.while {test : Expr} {body orelse : List Stmt} (I : Nat → Shared → Prop)
    (turn : ∀ n s, I n s → wpAny (model prog w) A (isTrue test env (eval test env)) (fun t s₂ =>
        if t then wpG b (model prog w) A (execs body env) (fun f s₃ => match f with
            | .next | .cont => ∃ m, m < n ∧ I m s₃
            | .brk => R (.ok .next) s₃
            | .ret v => R (.ok (.ret v)) s₃) (notedBy (model prog w) A env fun e s' => R (.error e) s') s₂
        else wpG b (model prog w) A (execs orelse env) (fun f s₃ => R (.ok f) s₃) (notedBy (model prog w) A env fun e s' => R (.error e) s') s₂)
        (notedBy (model prog w) A env fun e s' => R (.error e) s') s)
    (n : Nat) (h : I n s) : codeG b (model prog w) A (.whileLoop test body orelse env) R s := by
  refine .turns rfl I (fun n s hI => ?_) n h
  show wpG b _ A ((whileTurn test body orelse env).onRaise (fun x => do noteFrame x env; theTreesLotGoes x)) _ _ s
  refine .noted ?_
  simp only [whileTurn]
  refine .seq (wpAny_mono (turn n s hI) (fun t s₂ h₂ => ?_) fun _ _ h' => h')
  cases t with
  | false =>
    simp only [Bool.false_eq_true, if_false] at h₂ ⊢
    exact .bind (h₂.mono (fun f s₃ h₃ => .pure h₃) fun _ _ h' => h')
  | true =>
    simp only [if_true] at h₂ ⊢
    refine .bind (h₂.mono (fun f s₃ h₃ => ?_) fun _ _ h' => h')
    cases f with
    | next => exact .pure (.inl ⟨rfl, h₃⟩)
    | cont => exact .pure (.inl ⟨rfl, h₃⟩)
    | brk => exact .pure h₃
    | ret v => exact .pure h₃
theorem codeG.for {target : Expr} {it : Value} {body orelse : List Stmt} (I : Nat → Shared → Prop)
    (turn : ∀ n s, I n s → wpAny (model prog w) A (pyNext it) (fun r s₁ => match r with
      | none => wpG b (model prog w) A (execs orelse env) (fun f s₃ => R (.ok f) s₃) (notedBy (model prog w) A env fun e s' => R (.error e) s') s₁
      | some v => wpAny (model prog w) A (assign target env v) (fun _ s₂ => wpG b (model prog w) A (execs body env) (fun f s₃ => match f with
          | .next | .cont => ∃ m, m < n ∧ I m s₃
          | .brk => R (.ok .next) s₃
          | .ret v => R (.ok (.ret v)) s₃) (notedBy (model prog w) A env fun e s' => R (.error e) s') s₂) (notedBy (model prog w) A env fun e s' => R (.error e) s') s₁) (notedBy (model prog w) A env fun e s' => R (.error e) s') s)
    (n : Nat) (h : I n s) (ht : ∀ v, letOwnedTupleGo target it v = Pure.pure () := by intro _; rfl) : codeG b (model prog w) A (.forLoop target it body orelse env) R s := by
  refine .turns rfl I (fun n s hI => ?_) n h
  show wpG b _ _ ((forTurn target it body orelse env).onRaise (fun x => do noteFrame x env; theTreesLotGoes x)) _ _ s
  refine .noted ?_
  simp only [forTurn]
  refine .stand (.seq (wpAny_onRaise (wpAny_mono (turn n s hI) (fun r s₁ h₁ => ?_) fun _ _ h' => wpAny_standAt h')))
  cases r with
  | none => exact .pure (.inr ⟨rfl, .block h₁⟩)
  | some v =>
    refine .seq (wpAny_of_eq (ht v) ?_)
    refine .seq (wpAny_mono h₁ (fun _ s₂ h₂ => .bind (h₂.mono (fun f s₃ h₃ => ?_) fun _ _ h' => h')) fun _ _ h' => h')
    cases f with
    | next => exact .pure (.inl ⟨rfl, h₃⟩)
    | cont => exact .pure (.inl ⟨rfl, h₃⟩)
    | brk => exact .pure h₃
    | ret v => exact .pure h₃
theorem codeG.func {body : List Stmt} (h : wpG b (model prog w) (A.deeper env) (execs body env) (fun f s' => R (.ok (.ret (match f with | .ret v => v | _ => .none))) s')
      (fun e s' => wpAny (model prog w) (A.deeper env) (leaving env e) (fun _ s'' => R (.error e) s'') (fun e' s'' => R (.error e') s'') s') s) : codeG b (model prog w) A (.func body env) R s := by
  refine .tree ?_
  show wpG b _ (A.deeper env) (do point; match ← (execs body env).onRaise (leaving env) with | .ret v => PySem.ret v | _ => PySem.ret .none) _ _ s
  refine .seq (wpAny_point (.bind (.onRaise (h.mono (fun f s' h' => ?_) fun _ _ h' => h'))))
  cases f <;> exact .pure h'
theorem codeG.call {a : Addr} {o : Obj} {fd : FuncData} {body : List Stmt} {args : Args} {binds : List (Str × Value)}
    (hroom : A.depth < recursionLimit) (ho : s.heap.get? a = some o) (hdata : o.data = .func fd) (hlim : s.heap.NoLimit) (hcd : s.heap.CodeRec fd.code fd.qualname)
    (hbody : fd.body = .stmts body) (hbind : BindsTo s fd args binds)
    (hcell : ∀ x ∈ fd.scope.names, x.2 ≠ .cell) (hloc : ∀ x ∈ binds, fd.scope.names.lookup x.1 = some .local)
    (h : ∀ h₀, h₀.Ns s.heap.objs.size (fun x => binds.reverse.lookup x) → (∀ b o, s.heap.get? b = some o → h₀.get? b = some o) →
      wpG b (model prog w) (A.deeper (callEnv fd s.heap.objs.size a)) (execs body (callEnv fd s.heap.objs.size a)) (fun f s' => R (.ok (.ret (match f with | .ret v => v | _ => .none))) s')
        (fun e s' => wpAny (model prog w) (A.deeper (callEnv fd s.heap.objs.size a)) (leaving (callEnv fd s.heap.objs.size a) e) (fun _ s'' => R (.error e) s'') (fun e' s'' => R (.error e') s'') s')
        { s with heap := h₀, toks := s.toks + binds.length })
    (hco : fd.scope.isCoroutine = false) (hgen : fd.scope.isGenerator = false) (hk : fd.scope.kind = .function) : codeG b (model prog w) A (.call (.ref a) args) R s := by
  refine .tree ?_
  show wpG b _ A.in1 (callAny (.ref a) args) _ _ s
  simp only [callAny]
  refine .seq (wpAny_load ho ?_)
  obtain ⟨c, oc, vs, tq, hc, hoc, hdc, hq⟩ := hcd
  simp only [hdata, callFunction, hco, hgen, hbody, hc]
  refine .seq (m := field (.ref c) 1) (wpAny_field hoc hdc hq (.seq (wpAny_pure ?_)))
  refine .seq (hbind _ _ _ _ ?_)
  refine .seq (wpAny_newFunctionEnv hcell hloc (fun h₀ hns₀ hsb₀ => ?_) hk)
  refine .seq (wpAny_enterFrame (hlim.fresh _ hsb₀) hroom (.pure ⟨rfl, .func ?_⟩))
  rw [← hc]
  exact h h₀ hns₀ fun b o e => hsb₀.extBut b o (Nat.ne_of_lt (Heap.lt_size e)) (Heap.get?_push_of_some _ e)
/-- try: what is raised in the suite, is looked at by the clauses -/
theorem wpG.try {body orelse : List Stmt} {h₀ : ExceptHandler} {hs : List ExceptHandler} {pos : Pos} {Q : Flow → Shared → Prop}
    (h : wpG b (model prog w) A (execs body env) (fun f s₁ => match f with | .next => wpG b (model prog w) A (execs orelse env) Q E s₁ | f => Q f s₁)
      (fun e s₁ => wpAny (model prog w) A (noteFrame e env) (fun _ s₂ => wpAny (model prog w) A (setFlight e none) (fun _ s₃ => wpAny (model prog w) A (handleBy e env (h₀ :: hs)) Q E s₃) E s₂) E s₁) s) : wpG b (model prog w) A (exec (.Try body (h₀ :: hs) orelse [] pos) env) Q E s := by
  rw [arm_exec_Try]
  refine .stand ?_
  unfold tryStmt
  simp only [List.isEmpty_nil, if_true, List.isEmpty_cons, Bool.false_and, Bool.false_eq_true, if_false]
  refine .bind (.attempt (h.mono (fun f s₁ h₁ => ?_) fun e s₁ h₁ => ?_))
  · cases f <;> first | exact h₁ | exact .pure h₁
  · exact .seq (wpAny_mono h₁ (fun _ _ h₂ => .seq (wpAny_mono h₂ (fun _ _ h₃ => .of h₃) fun _ _ e => e)) fun _ _ e => e)
end
end Mine
namespace Mine
noncomputable abbrev G := Addr → Option Obj
noncomputable def G.In (g : G) (h : Heap) : Prop := ∀ b o, g b = some o → h.get? b = some o
noncomputable def Keep (h h' : Heap) : Prop := ∀ b o, h.get? b = some o → h'.get? b = some o
noncomputable def Le (g g' : G) : Prop := ∀ b o, g b = some o → g' b = some o
theorem Keep.refl (h : Heap) : Keep h h := fun _ _ e => e
theorem Keep.trans {a b c : Heap} (x : Keep a b) (y : Keep b c) : Keep a c := fun p o e => y p o (x p o e)
theorem Keep.push (h : Heap) (o : Obj) : Keep h (h.push o) := fun _ _ e => Heap.get?_push_of_some o e
theorem Keep.extBut {h h' : Heap} (x : Heap.ExtBut h.objs.size h h') : Keep h h' := fun b o e => x b o (Nat.ne_of_lt (Heap.lt_size e)) e
theorem Le.refl (g : G) : Le g g := fun _ _ e => e
theorem Le.trans {a b c : G} (x : Le a b) (y : Le b c) : Le a c := fun p o e => y p o (x p o e)
theorem G.In.keep {g : G} {h h' : Heap} (x : g.In h) (y : Keep h h') : g.In h' := fun b o e => y b o (x b o e)
noncomputable def G.add (g : G) (a : Addr) (o : Obj) : G := fun b => if b = a then some o else g b
theorem G.add_self (g : G) (a : Addr) (o : Obj) : g.add a o a = some o := by simp [G.add]
theorem G.add_ne {g : G} {a b : Addr} {o : Obj} (h : b ≠ a) : g.add a o b = g b := by simp [G.add, h]
theorem G.In.add {g : G} {h : Heap} {a : Addr} {o : Obj} (x : g.In h) (y : h.get? a = some o) : (g.add a o).In h := by
  intro b p e
  by_cases hb : b = a
  · subst hb; rw [G.add_self] at e; cases e; exact y
  · rw [G.add_ne hb] at e; exact x b p e
theorem Le.add {g : G} {a : Addr} {o : Obj} (h : g a = none) : Le g (g.add a o) := by
  intro b p e
  by_cases hb : b = a
  · subst hb; rw [h] at e; cases e
  · rw [G.add_ne hb]; exact e
theorem G.In.none_size {g : G} {h : Heap} (x : g.In h) : g h.objs.size = none := by
  cases e : g h.objs.size with
  | none => rfl
  | some o => exact absurd (Heap.lt_size (x _ _ e)) (Nat.lt_irrefl _)
noncomputable def G.or (g g' : G) : G := fun b => match g b with | some o => some o | none => g' b
theorem Le.or_left (g g' : G) : Le g (g.or g') := fun b o e => by simp [G.or, e]
theorem Le.or_right {g g' : G} {h : Heap} (x : g.In h) (y : g'.In h) : Le g' (g.or g') := fun b o e => by
  unfold G.or
  cases q : g b with
  | none => exact e
  | some p => have := x _ _ q; rw [y _ _ e] at this; exact this.symm
theorem G.In.or {g g' : G} {h : Heap} (x : g.In h) (y : g'.In h) : (g.or g').In h := fun b o e => by
  unfold G.or at e
  cases q : g b with
  | none => rw [q] at e; exact y _ _ e
  | some p => rw [q] at e; cases e; exact x _ _ q
theorem G.or_none {g g' : G} {b : Addr} (x : g b = none) (y : g' b = none) : (g.or g') b = none := by simp [G.or, x, y]
/-- plain data -/
inductive D where
  | none
  | bool (b : Bool)
  | int (i : Int)
  | str (x : Str)
  | list (ds : List D)
  | tup (ds : List D)
  | raw (v : Value)
mutual
inductive Rep (g : G) : Value → D → Prop where
  | none : Rep g .none .none
  | bool (b : Bool) : Rep g (.bool b) (.bool b)
  | int (i : Int) (t : Tok) : Rep g (.int i t) (.int i)
  | str (x : Str) (t : Tok) : Rep g (.str x t) (.str x)
  | list {a : Addr} {o : Obj} {vs : List Value} {n : Nat} {ds : List D} : g a = some o → o.cls = .type "list" → o.data = .seq vs.toArray n → Reps g vs ds → Rep g (.ref a) (.list ds)
  | tup {a : Addr} {o : Obj} {vs : List Value} {n : Nat} {ds : List D} : g a = some o → o.cls = .type "tuple" → o.data = .seq vs.toArray n → Reps g vs ds → Rep g (.ref a) (.tup ds)
  | raw (v : Value) : Rep g v (.raw v)
inductive Reps (g : G) : List Value → List D → Prop where
  | nil : Reps g [] []
  | cons {v : Value} {d : D} {vs : List Value} {ds : List D} : Rep g v d → Reps g vs ds → Reps g (v :: vs) (d :: ds)
end
mutual
theorem Rep.mono {g g' : G} (hl : Le g g') : ∀ {v : Value} {d : D}, Rep g v d → Rep g' v d
  | _, _, .none => .none
  | _, _, .bool b => .bool b
  | _, _, .int i t => .int i t
  | _, _, .str x t => .str x t
  | _, _, .list h1 h2 h3 h4 => .list (hl _ _ h1) h2 h3 (Reps.mono hl h4)
  | _, _, .tup h1 h2 h3 h4 => .tup (hl _ _ h1) h2 h3 (Reps.mono hl h4)
  | _, _, .raw v => .raw v
theorem Reps.mono {g g' : G} (hl : Le g g') : ∀ {vs : List Value} {ds : List D}, Reps g vs ds → Reps g' vs ds
  | _, _, .nil => .nil
  | _, _, .cons h1 h2 => .cons (h1.mono hl) (Reps.mono hl h2)
end
theorem Reps.length {g : G} : ∀ {vs : List Value} {ds : List D}, Reps g vs ds → vs.length = ds.length
  | _, _, .nil => rfl
  | _, _, .cons _ h2 => by simp [Reps.length h2]
theorem Reps.get {g : G} : ∀ {vs : List Value} {ds : List D}, Reps g vs ds → ∀ {i : Nat} {d : D}, ds[i]? = some d → ∃ v, vs[i]? = some v ∧ Rep g v d
  | _, _, .cons h1 _, 0, d, e => by simp at e; subst e; exact ⟨_, by simp, h1⟩
  | _, _, .cons _ h2, i + 1, d, e => by simpa using Reps.get h2 (i := i) (by simpa using e)
  | _, _, .nil, _, _, e => by simp at e
theorem Reps.append {g : G} : ∀ {vs us : List Value} {ds es : List D}, Reps g vs ds → Reps g us es → Reps g (vs ++ us) (ds ++ es)
  | _, _, _, _, .nil, h => h
  | _, _, _, _, .cons h1 h2, h => .cons h1 (h2.append h)
theorem Reps.drop {g : G} : ∀ {vs : List Value} {ds : List D}, Reps g vs ds → ∀ n, Reps g (vs.drop n) (ds.drop n)
  | _, _, h, 0 => by simpa using h
  | _, _, .cons _ h2, n + 1 => by simpa using h2.drop n
  | _, _, .nil, n + 1 => by simpa using Reps.nil
theorem Reps.take {g : G} : ∀ {vs : List Value} {ds : List D}, Reps g vs ds → ∀ n, Reps g (vs.take n) (ds.take n)
  | _, _, _, 0 => by simpa using Reps.nil
  | _, _, .cons h1 h2, n + 1 => by simpa using Reps.cons h1 (h2.take n)
  | _, _, .nil, n + 1 => by simpa using Reps.nil
/-- a list iterator and its list -/
noncomputable abbrev ItA := Addr × Addr
/-- what a local name holds -/
inductive AV where
  | un
  | val (d : D)
  | own (ds : List D)
  | it (a : ItA) (ds : List D)
noncomputable abbrev Sig := List (Str × AV)
inductive Loc : Sig → Str → AV → Prop where
  | head {x v r} : Loc ((x, v) :: r) x v
  | tail {x v p r} : Loc r x v → Loc (p :: r) x v
inductive Upd : Sig → Str → AV → Sig → Prop where
  | head {x v u r} : Upd ((x, u) :: r) x v ((x, v) :: r)
  | tail {x v p r r'} : Upd r x v r' → Upd (p :: r) x v (p :: r')
theorem Loc.mem {σ : Sig} {x : Str} {v : AV} (h : Loc σ x v) : (x, v) ∈ σ := by
  induction h with
  | head => exact .head _
  | tail _ ih => exact .tail _ ih
theorem Upd.keys {σ σ' : Sig} {x : Str} {v : AV} (h : Upd σ x v σ') : σ'.map (·.1) = σ.map (·.1) := by
  induction h with
  | head => rfl
  | tail _ ih => simp [ih]
theorem Upd.key_mem {σ σ' : Sig} {x : Str} {v : AV} (h : Upd σ x v σ') : x ∈ σ.map (·.1) := by
  induction h with
  | head => simp
  | tail _ ih => simp only [List.map_cons, List.mem_cons]; exact .inr ih
theorem Upd.mem {σ σ' : Sig} {x : Str} {v : AV} (h : Upd σ x v σ') (nd : (σ.map (·.1)).Nodup) : ∀ {y u}, (y, u) ∈ σ' → (y = x ∧ u = v) ∨ (y ≠ x ∧ (y, u) ∈ σ) := by
  induction h with
  | head =>
    intro y w hm
    rw [List.map_cons, List.nodup_cons] at nd
    rcases List.mem_cons.mp hm with e | hm
    · cases e; exact .inl ⟨rfl, rfl⟩
    · exact .inr ⟨fun e => nd.1 (e ▸ List.mem_map_of_mem (f := (·.1)) hm), .tail _ hm⟩
  | @tail x' v' p r r' hu ih =>
    intro y w hm
    rw [List.map_cons, List.nodup_cons] at nd
    rcases List.mem_cons.mp hm with e | hm
    · refine .inr ⟨fun q => nd.1 ?_, e ▸ .head _⟩
      rw [← e]; rw [show (y, w).1 = x' from q]; exact hu.key_mem
    · exact (ih nd.2 hm).imp id fun ⟨a, b⟩ => ⟨a, .tail _ b⟩
structure Cfg where
  prog : Program
  w : World
  A : Around
  h₁ : Heap
  mg : Str → Option Value
  mb : Str → Option Value
  env : Env
  fp : List Addr
  cal : Bool := false
noncomputable abbrev Cfg.M (c : Cfg) : Model := model c.prog c.w
structure Stat (h₁ : Heap) (mg mb : Str → Option Value) : Prop where
  g : h₁.Ns mainGlobals mg
  b : h₁.Ns builtinsNs mb
  nolimit : h₁.NoLimit
  nodigits : ∃ mc, h₁.Ns cStatics mc ∧ mc "sys.int_max_str_digits" = none
  bi : ∀ x : Str, x ≠ "__name__" → mb x = bootBuiltins x
/-- what expressions want of a frame -/
structure Cfg.Ev (c : Cfg) : Prop where
  st : Stat c.h₁ c.mg c.mb
  hk : c.env.scope.kind = .function
  hg : c.env.globals = mainGlobals
  hb : c.env.builtins = builtinsNs
  hh : c.A.handled = none
  un : c.A.units + 64 < cLine
  dp : c.A.depth < recursionLimit
/-- what statements want -/
structure Cfg.Ok (c : Cfg) : Prop extends c.Ev where
  Lfp : c.env.locals ∈ c.fp
  full : ∀ x p, c.env.cells.lookup x = some p → p ∈ c.fp
  apart : ∀ x y p, c.env.cells.lookup x = some p → c.env.cells.lookup y = some p → x = y
  offL : ∀ x p, c.env.cells.lookup x = some p → p ≠ c.env.locals
noncomputable def listObj (vs : List Value) (n : Nat) : Obj := ⟨.type "list", none, .seq vs.toArray n, #[]⟩
/-- a list iterator, over a list of the immutable part -/
noncomputable def ItAt (g : G) (h : Heap) (a : ItA) (ds : List D) : Prop :=
  ∃ (i : Nat) (o : Obj) (vs : List Value) (n : Nat), h.IsListIter a.1 a.2 i ∧ g a.2 = some o ∧ o.cls = .type "list" ∧ o.data = .seq vs.toArray n ∧ i ≤ vs.length ∧ vs.length ≤ 16777216 ∧ Reps g (vs.drop i) ds
theorem ItAt.mono {g g' : G} {h : Heap} {a : ItA} {ds : List D} (x : ItAt g h a ds) (hl : Le g g') : ItAt g' h a ds := by
  obtain ⟨i, o, vs, n, h1, h2, h3, h4, h5, h6, h7⟩ := x; exact ⟨i, o, vs, n, h1, hl _ _ h2, h3, h4, h5, h6, h7.mono hl⟩
theorem ItAt.at' {g : G} {h h' : Heap} {a : ItA} {ds : List D} (x : ItAt g h a ds) (e : ∀ o, h.get? a.1 = some o → h'.get? a.1 = some o) : ItAt g h' a ds := by
  obtain ⟨i, o, vs, n, ⟨p, h1, h2⟩, r⟩ := x; exact ⟨i, o, vs, n, ⟨p, e _ h1, h2⟩, r⟩
theorem ItAt.live {g : G} {h : Heap} {a : ItA} {ds : List D} (x : ItAt g h a ds) : h.get? a.1 ≠ none := by
  obtain ⟨i, o, vs, n, ⟨p, h1, h2⟩, r⟩ := x; rw [h1]; exact fun e => nomatch e
noncomputable def Holds (k g : G) (fp : List Addr) (m : Str → Option Value) (h : Heap) (x : Str) : AV → Prop
  | .un => True
  | .val d => ∃ u, m x = some u ∧ Rep g u d
  | .own ds => ∃ (a : Addr) (vs : List Value) (n : Nat), m x = some (.ref a) ∧ h.get? a = some (listObj vs n) ∧ Reps g vs ds ∧ k a = none ∧ g a = none ∧ a ∉ fp
  | .it a ds => m x = some (.ref a.1) ∧ ItAt g h a ds ∧ k a.1 = none ∧ g a.1 = none ∧ a.1 ∉ fp
noncomputable def AV.free : AV → Bool
  | .own _ | .it _ _ => true
  | _ => false
/-- where the names of a frame are kept -/
structure FrameAt (env : Env) (m : Str → Option Value) (h : Heap) : Prop where
  ns : ∃ m₀, h.Ns env.locals m₀ ∧ ∀ x, env.kindOf x = some .local → m₀ x = m x
  cl : ∀ x p, env.kindOf x = some .cell → env.cells.lookup x = some p → h.IsCell p (m x)
theorem FrameAt.keep {env : Env} {m : Str → Option Value} {h h' : Heap} (x : FrameAt env m h) (k : Keep h h') : FrameAt env m h' :=
  ⟨let ⟨m₀, a, b⟩ := x.ns; ⟨m₀, a.keeps k, b⟩, fun y p h1 h2 => (x.cl y p h1 h2).keeps k⟩
structure W (c : Cfg) (k : G) (N : Addr → Prop) (g : G) (m : Str → Option Value) (σ : Sig) (h : Heap) : Prop where
  base : ∀ b o, c.h₁.get? b = some o → k b = some o
  kin : k.In h
  gin : g.In h
  fpk : ∀ p ∈ c.fp, k p = none ∧ g p = none
  fpl : ∀ p ∈ c.fp, h.get? p ≠ none
  nN : ∀ b, N b → k b ≠ none ∧ g b = none
  fr : FrameAt c.env m h
  cel : ∀ x p, c.env.cells.lookup x = some p → p ∈ c.fp ∨ k p ≠ none
  Lfp : c.env.locals ∈ c.fp
  nod : (σ.map (·.1)).Nodup
  lcl : ∀ x ∈ σ.map (·.1), (c.env.kindOf x = some .local ∨ (c.env.kindOf x = some .cell ∧ ∃ p, c.env.cells.lookup x = some p)) ∧ (x == ("__debug__" : Str)) = false
  loc : ∀ x v, (x, v) ∈ σ → Holds k g c.fp m h x v
  sep : ∀ x u y v a, (x, u) ∈ σ → (y, v) ∈ σ → u.free = true → v.free = true → m x = some (.ref a) → m y = some (.ref a) → x = y
theorem Holds.keep {k g : G} {fp : List Addr} {m : Str → Option Value} {h h' : Heap} {x : Str} {v : AV} (hv : Holds k g fp m h x v) (hk : Keep h h') : Holds k g fp m h' x v := by
  cases v with
  | un => trivial
  | val d => exact hv
  | own ds => obtain ⟨a, vs, n, h1, h2, r⟩ := hv; exact ⟨a, vs, n, h1, hk _ _ h2, r⟩
  | it a ds => obtain ⟨h1, h2, r⟩ := hv; exact ⟨h1, h2.at' fun o e => hk _ _ e, r⟩
theorem Keep.live {h h' : Heap} (k : Keep h h') {p : Addr} (x : h.get? p ≠ none) : h'.get? p ≠ none := by
  obtain ⟨o, e⟩ := Option.ne_none_iff_exists'.mp x
  rw [k _ _ e]; exact fun e => nomatch e
theorem W.keep {c : Cfg} {k g : G} {N : Addr → Prop} {m : Str → Option Value} {σ : Sig} {h h' : Heap} (w : W c k N g m σ h) (hk : Keep h h') : W c k N g m σ h' :=
  { w with kin := w.kin.keep hk, gin := w.gin.keep hk, fr := w.fr.keep hk, fpl := fun p hp => hk.live (w.fpl p hp), loc := fun x v hm => (w.loc x v hm).keep hk }
theorem Holds.ext {k g g' : G} {fp : List Addr} {m : Str → Option Value} {h : Heap} {x : Str} {v : AV} (hv : Holds k g fp m h x v) (hl : Le g g')
    (ha : ∀ a, m x = some (.ref a) → v.free = true → g a = none → k a = none → h.get? a ≠ none → a ∉ fp → g' a = none) : Holds k g' fp m h x v := by
  cases v with
  | un => trivial
  | val d => obtain ⟨u, h1, h2⟩ := hv; exact ⟨u, h1, h2.mono hl⟩
  | own ds =>
    obtain ⟨a, vs, n, h1, h2, h3, h4, h5, h6⟩ := hv
    exact ⟨a, vs, n, h1, h2, h3.mono hl, h4, ha a h1 rfl h5 h4 (by rw [h2]; exact fun e => nomatch e) h6, h6⟩
  | it a ds =>
    obtain ⟨h1, h2, h3, h4, h5⟩ := hv
    exact ⟨h1, h2.mono hl, h3, ha a.1 h1 rfl h4 h3 h2.live h5, h5⟩
theorem W.grow {c : Cfg} {σ : Sig} {k g g' : G} {N : Addr → Prop} {m : Str → Option Value} {h h' : Heap} (w : W c k N g m σ h) (hk : Keep h h') (hin : g'.In h') (hle : Le g g') (hs : ∀ b, h.get? b ≠ none → g' b = g b) : W c k N g' m σ h' := by
  have w' := w.keep hk
  refine { w' with gin := hin, fpk := fun p hp => ⟨(w.fpk p hp).1, ?_⟩, nN := fun b hb => ⟨(w.nN b hb).1, ?_⟩, loc := fun x v hm => ?_ }
  · rw [hs p (w.fpl p hp)]; exact (w.fpk p hp).2
  · rw [hs]; exact (w.nN b hb).2
    cases q : k b with
    | none => exact absurd q (w.nN b hb).1
    | some p => rw [w.kin _ _ q]; exact fun e => nomatch e
  · have hv := w.loc x v hm
    refine (hv.ext hle fun b _ _ h1 _ h3 _ => ?_).keep hk
    rw [hs b h3]; exact h1
/-- a new object goes into the immutable part -/
theorem W.add {c : Cfg} {k g : G} {N : Addr → Prop} {m : Str → Option Value} {σ : Sig} {h : Heap} (w : W c k N g m σ h) {h' : Heap} {a : Addr} {o : Obj} (hk : Keep h h') (hn : h.get? a = none) (ha : h'.get? a = some o) :
    W c k N (g.add a o) m σ h' ∧ Le g (g.add a o) := by
  have hgn : g a = none := by
    cases e : g a with
    | none => rfl
    | some p => rw [w.gin _ _ e] at hn; cases hn
  have hle : Le g (g.add a o) := Le.add hgn
  exact ⟨w.grow hk ((w.gin.keep hk).add ha) hle fun b hb => G.add_ne fun e => hb (e ▸ hn), hle⟩
/-- an expression: it gives d and changes nothing -/
noncomputable def EV (c : Cfg) (σ : Sig) (e : Expr) (d : D) : Prop :=
  ∀ (k : G) (N : Addr → Prop) (g : G) (m : Str → Option Value) (s : Shared) (Q E : Value → Shared → Prop), W c k N g m σ s.heap →
    (∀ v h' g' tk, Keep s.heap h' → W c k N g' m σ h' → Le g g' → Rep g' v d → Q v { s with heap := h', toks := tk }) →
    wpAny c.M c.A (eval e c.env) Q E s
/-- a test -/
noncomputable def EVB (c : Cfg) (σ : Sig) (e : Expr) (b : Bool) : Prop :=
  ∀ (k : G) (N : Addr → Prop) (g : G) (m : Str → Option Value) (s : Shared) (Q : Bool → Shared → Prop) (E : Value → Shared → Prop), W c k N g m σ s.heap →
    (∀ h' g' tk, Keep s.heap h' → W c k N g' m σ h' → Le g g' → Q b { s with heap := h', toks := tk }) →
    wpAny c.M c.A (isTrue e c.env (eval e c.env)) Q E s
inductive AFlow where
  | next | brk | cont
  | ret (d : D)
inductive Flows (g : G) : Flow → AFlow → Prop where
  | next : Flows g .next .next
  | brk : Flows g .brk .brk
  | cont : Flows g .cont .cont
  | ret {v : Value} {d : D} : Rep g v d → Flows g (.ret v) (.ret d)
noncomputable def Fin (c : Cfg) (k : G) (N : Addr → Prop) (Φ : AFlow → Sig → Prop) (s : Shared) (f : Flow) (s' : Shared) : Prop :=
  ∃ h' tk g' m' σ' af, s' = { s with heap := h', toks := tk } ∧ W c k N g' m' σ' h' ∧ Flows g' f af ∧ Φ af σ'
/-- what is known of an error that leaves the frame, told of the heap behind it -/
noncomputable abbrev ERes := Value → Heap → Prop
noncomputable def Eof (c : Cfg) (E : ERes) (s : Shared) : Value → Shared → Prop := fun v s' => wpAny c.M c.A (leaving c.env v) (fun _ s'' => ∃ h tk, s'' = { s with heap := h, toks := tk } ∧ E v h) (fun _ _ => False) s'
theorem Eof.passes {c : Cfg} {E : ERes} {s : Shared} : PassesOwn c.M c.A c.env (Eof c E s) := PassesOwn.leaving
/-- statements -/
noncomputable def SX (c : Cfg) (E : ERes) (σ : Sig) (ss : List Stmt) (Φ : AFlow → Sig → Prop) : Prop :=
  ∀ (k : G) (N : Addr → Prop) (g : G) (m : Str → Option Value) (s : Shared), W c k N g m σ s.heap →
    wpG c.cal c.M c.A (execs ss c.env) (Fin c k N Φ s) (Eof c E s) s
noncomputable def seqT (c : Cfg) (E : ERes) (rest : List Stmt) (Φ : AFlow → Sig → Prop) : AFlow → Sig → Prop
  | .next, σ => SX c E σ rest Φ
  | f, σ => Φ f σ
theorem Fin.trans {c : Cfg} {k : G} {N : Addr → Prop} {Φ : AFlow → Sig → Prop} {s : Shared} {h : Heap} {tk : Nat} {f : Flow} {s' : Shared} (x : Fin c k N Φ { s with heap := h, toks := tk } f s') : Fin c k N Φ s f s' := by
  obtain ⟨h', tk', g', m', σ', af, rfl, r⟩ := x
  exact ⟨h', tk', g', m', σ', af, rfl, r⟩
theorem SX.mono {c : Cfg} {E : ERes} {σ : Sig} {ss : List Stmt} {Φ Ψ : AFlow → Sig → Prop} (x : SX c E σ ss Φ) (h : ∀ f σ', Φ f σ' → Ψ f σ') : SX c E σ ss Ψ :=
  fun k N g m s w => (x k N g m s w).mono (fun _ _ ⟨h', tk, g', m', σ', af, e, w', fl, p⟩ => ⟨h', tk, g', m', σ', af, e, w', fl, h _ _ p⟩) fun _ _ e => e
/-- a step: from the first statement's end to the rest -/
theorem SX.stepG {c : Cfg} {E : ERes} {σ : Sig} {st : Stmt} {rest : List Stmt} {Φ : AFlow → Sig → Prop}
    (h : ∀ k N g m s, W c k N g m σ s.heap → wpG c.cal c.M c.A (exec st c.env) (Fin c k N (seqT c E rest Φ) s) (Eof c E s) s) : SX c E σ (st :: rest) Φ := by
  intro k N g m s w
  refine .cons ((h k N g m s w).mono (fun f s' hf => ?_) fun _ _ e => e)
  obtain ⟨h', tk, g', m', σ', af, rfl, w', fl, p⟩ := hf
  cases fl with
  | next => exact (p k N g' m' _ w').mono (fun _ _ q => q.trans) fun _ _ e => e
  | brk => exact ⟨h', tk, g', m', σ', _, rfl, w', .brk, p⟩
  | cont => exact ⟨h', tk, g', m', σ', _, rfl, w', .cont, p⟩
  | ret hv => exact ⟨h', tk, g', m', σ', _, rfl, w', .ret hv, p⟩
theorem SX.step {c : Cfg} {E : ERes} {σ : Sig} {st : Stmt} {rest : List Stmt} {Φ : AFlow → Sig → Prop}
    (h : ∀ k N g m s, W c k N g m σ s.heap → wpAny c.M c.A (exec st c.env) (Fin c k N (seqT c E rest Φ) s) (Eof c E s) s) : SX c E σ (st :: rest) Φ :=
  .stepG fun k N g m s w => .of (h k N g m s w)
theorem SX.nil {c : Cfg} {E : ERes} {σ : Sig} {Φ : AFlow → Sig → Prop} (h : Φ .next σ) : SX c E σ [] Φ :=
  fun _ _ g m s w => .nil ⟨s.heap, s.toks, g, m, σ, .next, rfl, w, .next, h⟩
/-- an expression that moves iterators or changes own lists -/
noncomputable def EX (c : Cfg) (σ : Sig) (e : Expr) (d : D) (σ' : Sig) : Prop :=
  ∀ (k : G) (N : Addr → Prop) (g : G) (m : Str → Option Value) (s : Shared) (Q E : Value → Shared → Prop), W c k N g m σ s.heap →
    (∀ v h' g' tk, W c k N g' m σ' h' → Le g g' → Rep g' v d → Q v { s with heap := h', toks := tk }) →
    wpAny c.M c.A (eval e c.env) Q E s
noncomputable def EXB (c : Cfg) (σ : Sig) (e : Expr) (b : Bool) (σ' : Sig) : Prop :=
  ∀ (k : G) (N : Addr → Prop) (g : G) (m : Str → Option Value) (s : Shared) (Q : Bool → Shared → Prop) (E : Value → Shared → Prop), W c k N g m σ s.heap →
    (∀ h' g' tk, W c k N g' m σ' h' → Le g g' → Q b { s with heap := h', toks := tk }) →
    wpAny c.M c.A (isTrue e c.env (eval e c.env)) Q E s
theorem EV.toEX {c : Cfg} {σ : Sig} {e : Expr} {d : D} (h : EV c σ e d) : EX c σ e d σ := fun k N g m s Q E w q => h k N g m s Q E w fun v h' g' tk _ w' l' r' => q v h' g' tk w' l' r'
theorem EVB.toEXB {c : Cfg} {σ : Sig} {e : Expr} {b : Bool} (h : EVB c σ e b) : EXB c σ e b σ := fun k N g m s Q E w q => h k N g m s Q E w fun h' g' tk _ w' l' => q h' g' tk w' l'
end Mine
namespace Mine
section
variable {c : Cfg} {σ : Sig}
theorem W.name {k g : G} {N : Addr → Prop} {m : Str → Option Value} {h : Heap} {x : Str} {d : D} (w : W c k N g m σ h) (hl : Loc σ x (.val d)) : ∃ u, m x = some u ∧ Rep g u d := w.loc x _ hl.mem
theorem W.kind {k g : G} {N : Addr → Prop} {m : Str → Option Value} {h : Heap} {x : Str} {v : AV} (w : W c k N g m σ h) (hl : Loc σ x v) : c.env.kindOf x = some .local ∨ (c.env.kindOf x = some .cell ∧ ∃ p, c.env.cells.lookup x = some p) :=
  (w.lcl x (List.mem_map_of_mem (f := (·.1)) hl.mem)).1
theorem W.nodebug {k g : G} {N : Addr → Prop} {m : Str → Option Value} {h : Heap} {x : Str} {v : AV} (w : W c k N g m σ h) (hl : Loc σ x v) : (x == ("__debug__" : Str)) = false :=
  (w.lcl x (List.mem_map_of_mem (f := (·.1)) hl.mem)).2
theorem W.load (ok : c.Ev) {k g : G} {N : Addr → Prop} {m : Str → Option Value} {s : Shared} {x : Str} {v : AV} {u : Value} {Q E : Value → Shared → Prop} (w : W c k N g m σ s.heap) (hl : Loc σ x v) (hm : m x = some u) (h : Q u s) : wpAny c.M c.A (loadName c.env x) Q E s := by
  rcases w.kind hl with hk | ⟨hk, p, hp⟩
  · obtain ⟨m₀, h1, h2⟩ := w.fr.ns
    exact wpAny_loadName_local ok.hk hk h1 ((h2 x hk).trans hm) h
  · have h1 := w.fr.cl x p hk hp
    rw [hm] at h1
    exact wpAny_loadName_cell ok.hk hk hp h1 h
theorem EV.const_str {x : Str} {kk : Nat} {pos : Pos} : EV c σ (.Constant (.str x) kk pos) (.str x) :=
  fun _ _ g _ s _ _ w h => Calls.Constant_str (h _ s.heap g _ (Keep.refl _) w (Le.refl _) (.str _ _))
theorem EV.const_int {i : Int} {kk : Nat} {pos : Pos} : EV c σ (.Constant (.int i) kk pos) (.int i) :=
  fun _ _ g _ s _ _ w h => wpAny_Constant_int (h _ s.heap g _ (Keep.refl _) w (Le.refl _) (.int _ _))
theorem EV.const_bool {b : Bool} {kk : Nat} {pos : Pos} : EV c σ (.Constant (.bool b) kk pos) (.bool b) :=
  fun _ _ g _ s _ _ w h => wpAny_pure (h _ s.heap g s.toks (Keep.refl _) w (Le.refl _) (.bool _))
theorem EV.name (ok : c.Ev) {x : Str} {pos : Pos} {d : D} (hl : Loc σ x (.val d)) : EV c σ (.Name x pos) d := by
  intro k N g m s Q E w h
  obtain ⟨u, hu, hr⟩ := w.name hl
  exact wpAny_Name (w.load ok hl hu (h u s.heap g s.toks (Keep.refl _) w (Le.refl _) hr)) (w.nodebug hl)
/-- an operation on two data -/
noncomputable def OP2 (c : Cfg) (t : Value → Value → Sem Value) (d₁ d₂ d : D) : Prop :=
  ∀ (g : G) (s : Shared) (v₁ v₂ : Value) (Q E : Value → Shared → Prop), g.In s.heap → Rep g v₁ d₁ → Rep g v₂ d₂ →
    (∀ v h' g' tk, Keep s.heap h' → g'.In h' → Le g g' → (∀ b, s.heap.get? b ≠ none → g' b = g b) → Rep g' v d → Q v { s with heap := h', toks := tk }) → wpAny c.M c.A (t v₁ v₂) Q E s
theorem EV.binop {l r : Expr} {op : Operator} {pos : Pos} {d₁ d₂ d : D} (hl : EV c σ l d₁) (hr : EV c σ r d₂) (ho : OP2 c (binaryOp op) d₁ d₂ d) : EV c σ (.BinOp l op r pos) d := by
  intro k N g m s Q E w h
  refine wpAny_BinOp (hl k N g m s _ E w fun v₁ h₁ g₁ t₁ k₁ w₁ l₁ r₁ => ?_)
  refine hr k N g₁ m _ _ E w₁ fun v₂ h₂ g₂ t₂ k₂ w₂ l₂ r₂ => ?_
  refine ho g₂ _ v₁ v₂ _ E w₂.gin (r₁.mono l₂) r₂ fun v h₃ g₃ t₃ k₃ i₃ l₃ s₃ r₃ => ?_
  exact h v h₃ g₃ t₃ (k₁.trans (k₂.trans k₃)) (w₂.grow k₃ i₃ l₃ s₃) (l₁.trans (l₂.trans l₃)) r₃
theorem EV.compare {l r : Expr} {op : CmpOp} {pos : Pos} {d₁ d₂ d : D} (hl : EV c σ l d₁) (hr : EV c σ r d₂) (ho : OP2 c (compareOp op) d₁ d₂ d) (hm : behindInMarks op r = false) : EV c σ (.Compare l [op] [r] pos) d := by
  intro k N g m s Q E w h
  refine wpAny_Compare1 (hl k N g m s _ E w fun v₁ h₁ g₁ t₁ k₁ w₁ l₁ r₁ => ?_) hm
  refine hr k N g₁ m _ _ E w₁ fun v₂ h₂ g₂ t₂ k₂ w₂ l₂ r₂ => ?_
  refine ho g₂ _ v₁ v₂ _ E w₂.gin (r₁.mono l₂) r₂ fun v h₃ g₃ t₃ k₃ i₃ l₃ s₃ r₃ => ?_
  exact h v h₃ g₃ t₃ (k₁.trans (k₂.trans k₃)) (w₂.grow k₃ i₃ l₃ s₃) (l₁.trans (l₂.trans l₃)) r₃
/-- truth of a datum -/
noncomputable def TR (c : Cfg) (d : D) (b : Bool) : Prop :=
  ∀ (g : G) (s : Shared) (v : Value) (Q : Bool → Shared → Prop) (E : Value → Shared → Prop), g.In s.heap → Rep g v d → (∀ tk, Q b { s with toks := tk }) → wpAny c.M c.A (truthy v) Q E s
theorem TR.bool {b : Bool} : TR c (.bool b) b := fun g s v Q E _ hr h => by cases hr; exact wpAny_pure (h s.toks)
theorem TR.str {x : Str} (hx : x.length ≤ 16777216) : TR c (.str x) (x.length != 0) := fun g s v Q E _ hr h => by
  cases hr
  refine PySem.P.truthy_str (by omega) ?_
  have e : ((x.length : Int) != 0) = (x.length != 0) := by
    cases h0 : x.length with
    | zero => rfl
    | succ n => have : ((n + 1 : Nat) : Int) ≠ 0 := by omega
                rw [bne_iff_ne.mpr this, bne_iff_ne.mpr (by omega)]
  rw [e]; exact h _
theorem EVB.compare {l r : Expr} {op : CmpOp} {pos : Pos} {d₁ d₂ : D} {b : Bool} (hl : EV c σ l d₁) (hr : EV c σ r d₂) (ho : OP2 c (compareOp op) d₁ d₂ (.bool b)) (hm : behindInMarks op r = false) : EVB c σ (.Compare l [op] [r] pos) b := by
  intro k N g m s Q E w h
  refine wpAny_isTrue_Compare1 (hl k N g m s _ E w fun v₁ h₁ g₁ t₁ k₁ w₁ l₁ r₁ => ?_) hm
  refine hr k N g₁ m _ _ E w₁ fun v₂ h₂ g₂ t₂ k₂ w₂ l₂ r₂ => ?_
  refine ho g₂ _ v₁ v₂ _ E w₂.gin (r₁.mono l₂) r₂ fun v h₃ g₃ t₃ k₃ i₃ l₃ s₃ r₃ => ?_
  refine TR.bool g₃ _ v _ E i₃ r₃ fun tk => ?_
  exact h h₃ g₃ tk (k₁.trans (k₂.trans k₃)) (w₂.grow k₃ i₃ l₃ s₃) (l₁.trans (l₂.trans l₃))
theorem EVB.and_nil {pos : Pos} : EVB c σ (.BoolOp .And [] pos) true := fun _ _ g _ s _ _ w q => isTrue_and_nil (q s.heap g s.toks (Keep.refl _) w (Le.refl _))
theorem EVB.or_nil {pos : Pos} : EVB c σ (.BoolOp .Or [] pos) false := fun _ _ g _ s _ _ w q => isTrue_or_nil (q s.heap g s.toks (Keep.refl _) w (Le.refl _))
theorem EVB.and {e : Expr} {rest : List Expr} {pos : Pos} {b b' : Bool} (h : EVB c σ e b) (h' : b = true → EVB c σ (.BoolOp .And rest pos) b') : EVB c σ (.BoolOp .And (e :: rest) pos) (b && b') := by
  intro k N g m s Q E w q
  refine isTrue_and (h k N g m s _ E w fun h₁ g₁ t₁ k₁ w₁ l₁ => ?_)
  cases b with
  | false => rw [if_neg Bool.false_ne_true]; exact q h₁ g₁ t₁ k₁ w₁ l₁
  | true => rw [if_pos rfl]; exact h' rfl k N g₁ m _ Q E w₁ fun h₂ g₂ t₂ k₂ w₂ l₂ => q h₂ g₂ t₂ (k₁.trans k₂) w₂ (l₁.trans l₂)
theorem EVB.or {e : Expr} {rest : List Expr} {pos : Pos} {b b' : Bool} (h : EVB c σ e b) (h' : b = false → EVB c σ (.BoolOp .Or rest pos) b') : EVB c σ (.BoolOp .Or (e :: rest) pos) (b || b') := by
  intro k N g m s Q E w q
  refine isTrue_or (h k N g m s _ E w fun h₁ g₁ t₁ k₁ w₁ l₁ => ?_)
  cases b with
  | true => rw [if_pos rfl]; exact q h₁ g₁ t₁ k₁ w₁ l₁
  | false => rw [if_neg Bool.false_ne_true]; exact h' rfl k N g₁ m _ Q E w₁ fun h₂ g₂ t₂ k₂ w₂ l₂ => q h₂ g₂ t₂ (k₁.trans k₂) w₂ (l₁.trans l₂)
theorem EVB.plain {e : Expr} {d : D} {b : Bool} (h : EV c σ e d) (ht : TR c d b) (he : isTrue e c.env (eval e c.env) = (do let v ← eval e c.env; standAt e.pos; holding [v] (truthy v))) : EVB c σ e b := by
  intro k N g m s Q E w q
  refine isTrue_plain (h k N g m s _ E w fun v h₁ g₁ t₁ k₁ w₁ l₁ r₁ => ?_) he
  exact ht g₁ _ v _ E w₁.gin r₁ fun tk => q h₁ g₁ tk k₁ w₁ l₁
/-- and, or, not as values -/
theorem EV.and1 {e : Expr} {pos : Pos} {d : D} (h : EV c σ e d) : EV c σ (.BoolOp .And [e] pos) d := h
theorem EV.and {e f : Expr} {rest : List Expr} {pos : Pos} {b b' : Bool} (h : EV c σ e (.bool b)) (h' : b = true → EV c σ (.BoolOp .And (f :: rest) pos) (.bool b')) : EV c σ (.BoolOp .And (e :: f :: rest) pos) (.bool (b && b')) := by
  intro k N g m s Q E w q
  show wpAny _ _ (do
    let v ← eval e c.env
    standAt pos
    let t ← holding [v] (truthy v)
    match BoolOp.And, t with
    | .And, false | .Or, true => pure v
    | _, _ => boolOp pos .And (evalEach (f :: rest) c.env)) Q E s
  refine wpAny_bind (h k N g m s _ E w fun v h₁ g₁ t₁ k₁ w₁ l₁ r₁ => ?_)
  refine wpAny_bind (wpAny_standAt (wpAny_bind (wpAny_holding (TR.bool g₁ _ v _ E w₁.gin r₁ fun tk => ?_))))
  cases b with
  | false => exact wpAny_pure (q v h₁ g₁ tk k₁ w₁ l₁ r₁)
  | true => exact h' rfl k N g₁ m _ Q E w₁ fun v h₂ g₂ t₂ k₂ w₂ l₂ r₂ => q v h₂ g₂ t₂ (k₁.trans k₂) w₂ (l₁.trans l₂) r₂
theorem EV.not {e : Expr} {pos : Pos} {d : D} {b : Bool} (h : EV c σ e d) (ht : TR c d b) : EV c σ (.UnaryOp .Not e pos) (.bool (!b)) := by
  intro k N g m s Q E w q
  show wpAny _ _ (do let v ← eval e c.env; standAt pos; holding [v] (unaryOp .Not v)) Q E s
  refine wpAny_bind (h k N g m s _ E w fun v h₁ g₁ t₁ k₁ w₁ l₁ r₁ => ?_)
  refine wpAny_bind (wpAny_standAt (wpAny_holding (not_of (ht g₁ _ v _ E w₁.gin r₁ fun tk => ?_))))
  exact q _ h₁ g₁ tk k₁ w₁ l₁ (.bool _)
theorem EV.neg {i : Int} {e : Expr} {pos : Pos} (h : EV c σ e (.int i)) : EV c σ (.UnaryOp .USub e pos) (.int (-i)) := by
  intro k N g m s Q E w q
  show wpAny _ _ (do let v ← eval e c.env; standAt pos; holding [v] (unaryOp .USub v)) Q E s
  refine wpAny_bind (h k N g m s _ E w fun v h₁ g₁ t₁ k₁ w₁ l₁ r₁ => ?_)
  cases r₁
  exact wpAny_bind (wpAny_standAt (wpAny_holding (PySem.P.neg_int (q _ h₁ g₁ _ k₁ w₁ l₁ (.int _ _)))))
/-- operations that make nothing on the heap -/
theorem OP2.of {t : Value → Value → Sem Value} {d₁ d₂ d : D} (h : ∀ (s : Shared) (g : G) (v₁ v₂ : Value) (Q E : Value → Shared → Prop), g.In s.heap → Rep g v₁ d₁ → Rep g v₂ d₂ → (∀ v tk, Rep g v d → Q v { s with toks := tk }) → wpAny c.M c.A (t v₁ v₂) Q E s) : OP2 c t d₁ d₂ d :=
  fun g s v₁ v₂ Q E hg h1 h2 q => h s g v₁ v₂ Q E hg h1 h2 fun v tk hr => q v s.heap g tk (Keep.refl _) hg (Le.refl _) (fun _ _ => rfl) hr
theorem OP2.eq_str {x y : Str} : OP2 c (compareOp .Eq) (.str x) (.str y) (.bool (x == y)) := .of fun s g v₁ v₂ Q E _ h1 h2 q => by
  cases h1; cases h2; exact PyProof.Rows.eq_str (q _ s.toks (.bool _))
theorem OP2.ne_str {x y : Str} : OP2 c (compareOp .NotEq) (.str x) (.str y) (.bool (x != y)) := .of fun s g v₁ v₂ Q E _ h1 h2 q => by
  cases h1; cases h2; exact PyProof.Rows.ne_str (q _ s.toks (.bool _))
theorem OP2.eq_int {x y : Int} : OP2 c (compareOp .Eq) (.int x) (.int y) (.bool (x == y)) := .of fun s g v₁ v₂ Q E _ h1 h2 q => by
  cases h1; cases h2; exact PySem.P.eq_int (q _ s.toks (.bool _))
theorem OP2.lt_int {x y : Int} : OP2 c (compareOp .Lt) (.int x) (.int y) (.bool (decide (x < y))) := .of fun s g v₁ v₂ Q E _ h1 h2 q => by
  cases h1; cases h2; exact PySem.P.lt_int (q _ s.toks (.bool _))
theorem OP2.le_int {x y : Int} : OP2 c (compareOp .LtE) (.int x) (.int y) (.bool (decide (x ≤ y))) := .of fun s g v₁ v₂ Q E _ h1 h2 q => by
  cases h1; cases h2; exact PySem.P.le_int (q _ s.toks (.bool _))
theorem OP2.gt_int {x y : Int} : OP2 c (compareOp .Gt) (.int x) (.int y) (.bool (decide (y < x))) := .of fun s g v₁ v₂ Q E _ h1 h2 q => by
  cases h1; cases h2; exact PySem.P.gt_int (q _ s.toks (.bool _))
theorem OP2.ge_int {x y : Int} : OP2 c (compareOp .GtE) (.int x) (.int y) (.bool (decide (y ≤ x))) := .of fun s g v₁ v₂ Q E _ h1 h2 q => by
  cases h1; cases h2; exact PySem.P.ge_int (q _ s.toks (.bool _))
theorem OP2.add_int {x y : Int} : OP2 c (binaryOp .Add) (.int x) (.int y) (.int (x + y)) := .of fun s g v₁ v₂ Q E _ h1 h2 q => by
  cases h1; cases h2; exact PySem.P.add_int (q _ _ (.int _ _))
theorem OP2.mod_int {x y : Int} (hy : y ≠ 0) : OP2 c (binaryOp .Mod) (.int x) (.int y) (.int (x.fmod y)) := .of fun s g v₁ v₂ Q E _ h1 h2 q => by
  cases h1; cases h2; exact mod_int' hy (q _ _ (.int _ _))
theorem OP2.add_str {x y : Str} (hs : x.length + y.length ≤ 16777216) : OP2 c (binaryOp .Add) (.str x) (.str y) (.str (x ++ y)) := .of fun s g v₁ v₂ Q E _ h1 h2 q => by
  cases h1; cases h2; exact PyProof.Rows.add_str (fun t' tk => q _ tk (.str _ t')) hs
theorem OP2.iadd_str {x y : Str} (hs : x.length + y.length ≤ 16777216) : OP2 c (inplaceOp .Add) (.str x) (.str y) (.str (x ++ y)) := .of fun s g v₁ v₂ Q E _ h1 h2 q => by
  cases h1; cases h2; exact PyProof.Rows.iadd_str (fun t' tk => q _ tk (.str _ t')) hs
theorem OP2.iadd_int {x y : Int} : OP2 c (inplaceOp .Add) (.int x) (.int y) (.int (x + y)) := .of fun s g v₁ v₂ Q E _ h1 h2 q => by
  cases h1; cases h2; exact PySem.P.iadd_int (q _ _ (.int _ _))
theorem OP2.isub_int {x y : Int} : OP2 c (inplaceOp .Sub) (.int x) (.int y) (.int (x - y)) := .of fun s g v₁ v₂ Q E _ h1 h2 q => by
  cases h1; cases h2; exact PySem.P.isub_int (q _ _ (.int _ _))
/-- lists and tuples: display -/
inductive EVs (c : Cfg) (σ : Sig) : List Expr → List D → Prop where
  | nil : EVs c σ [] []
  | cons {e : Expr} {d : D} {es : List Expr} {ds : List D} : EV c σ e d → (∀ env, backTo default (starEach (e :: es) env) = (false, eval e env) :: backTo default (starEach es env)) → EVs c σ es ds → EVs c σ (e :: es) (d :: ds)
theorem backTo_pos (pos pos' : Pos) : ∀ (l : List (Bool × Sem Value)), l.any (·.1) = false → backTo pos l = backTo pos' l
  | [], _ => rfl
  | (b, t) :: r, h => by
    simp only [List.any_cons, Bool.or_eq_false_iff] at h
    have hb : b = false := h.1
    subst hb
    have := backTo_pos pos pos' r h.2
    simp only [backTo, List.map_cons, Bool.false_eq_true, if_false] at this ⊢
    rw [this]
theorem EVs.plain {es : List Expr} {ds : List D} (h : EVs c σ es ds) : ∀ pos env, backTo pos (starEach es env) = es.map fun e => (false, eval e env) := by
  induction h with
  | nil => intro _ _; rfl
  | @cons e d es ds _ h2 _ ih =>
    intro pos env
    have h3 := h2 env
    rw [ih] at h3
    have h4 : (starEach (e :: es) env).any (·.1) = false := by
      have h5 : (backTo default (starEach (e :: es) env)).any (·.1) = false := by rw [h3]; simp
      simpa [backTo, List.any_map, Function.comp_def] using h5
    rw [backTo_pos pos default _ h4, h3]; rfl
theorem EVs.splice {es : List Expr} {ds : List D} (h : EVs c σ es ds) : ∀ (k : G) (N : Addr → Prop) (g : G) (m : Str → Option Value) (s : Shared) (Q : List Value → Shared → Prop) (E : Value → Shared → Prop), W c k N g m σ s.heap →
    (∀ vs h' g' tk, Keep s.heap h' → W c k N g' m σ h' → Le g g' → Reps g' vs ds → Q vs { s with heap := h', toks := tk }) →
    wpAny c.M c.A (spliced (es.map fun e => (false, eval e c.env))) Q E s := by
  induction h with
  | nil => intro k N g m s Q E w q; exact Calls.spliced_nil (q [] s.heap g s.toks (Keep.refl _) w (Le.refl _) .nil)
  | @cons e d es ds h1 _ _ ih =>
    intro k N g m s Q E w q
    refine Calls.spliced_cons (h1 k N g m s _ E w fun v h₁ g₁ t₁ k₁ w₁ l₁ r₁ => ?_)
    refine ih k N g₁ m _ _ E w₁ fun vs h₂ g₂ t₂ k₂ w₂ l₂ r₂ => ?_
    exact q _ h₂ g₂ t₂ (k₁.trans k₂) w₂ (l₁.trans l₂) (.cons (r₁.mono l₂) r₂)
theorem EV.list {es : List Expr} {ds : List D} {pos : Pos} (h : EVs c σ es ds) (hn : ds.length ≤ 16777216) : EV c σ (.List es pos) (.list ds) := by
  intro k N g m s Q E w q
  refine List_ ?_
  rw [h.plain]
  refine h.splice k N g m s _ E w fun vs h₁ g₁ t₁ k₁ w₁ l₁ r₁ => ?_
  refine wpAny_newList ?_ (by rw [r₁.length]; exact hn)
  have hsz := Heap.get?_none_of_le (h := h₁) (Nat.le_refl _)
  have ha : (h₁.push (listObj vs 0)).get? h₁.objs.size = some (listObj vs 0) := Heap.get?_push_size _ rfl
  obtain ⟨w₂, l₂⟩ := w₁.add (Keep.push h₁ (listObj vs 0)) hsz ha
  exact q _ _ _ _ (k₁.trans (Keep.push _ _)) w₂ (l₁.trans l₂) (.list (G.add_self _ _ _) rfl rfl (r₁.mono l₂))
theorem EV.tuple {es : List Expr} {ds : List D} {kk : Nat} {pos : Pos} (h : EVs c σ es ds) (hn : ds.length ≤ 16777216) : EV c σ (.Tuple es kk pos) (.tup ds) := by
  intro k N g m s Q E w q
  refine Tuple_ ?_
  rw [h.plain]
  refine h.splice k N g m s _ E w fun vs h₁ g₁ t₁ k₁ w₁ l₁ r₁ => ?_
  refine wpAny_newTuple ?_ (by rw [r₁.length]; exact hn)
  have hsz := Heap.get?_none_of_le (h := h₁) (Nat.le_refl _)
  have ha : (h₁.push { cls := .type "tuple", data := .seq vs.toArray }).get? h₁.objs.size = some { cls := .type "tuple", data := .seq vs.toArray } := Heap.get?_push_size _ rfl
  obtain ⟨w₂, l₂⟩ := w₁.add (Keep.push h₁ _) hsz ha
  exact q _ _ _ _ (k₁.trans (Keep.push _ _)) w₂ (l₁.trans l₂) (.tup (G.add_self _ _ _) rfl rfl (r₁.mono l₂))
end
end Mine
namespace Mine
section
variable {c : Cfg} {σ σ' : Sig} {E : ERes} {EE : Value → Shared → Prop} {Φ : AFlow → Sig → Prop} {rest : List Stmt}
/-- stores into the frame leave all else -/
noncomputable def OffFp (fp : List Addr) (h h' : Heap) : Prop := ∀ b, b ∉ fp → h'.get? b = h.get? b
theorem Holds.offFp {k g : G} {fp : List Addr} {m m' : Str → Option Value} {h h' : Heap} {y : Str} {v : AV} (hv : Holds k g fp m h y v) (hs : OffFp fp h h') (hm : m' y = m y) : Holds k g fp m' h' y v := by
  cases v with
  | un => trivial
  | val d => obtain ⟨u, h1, h2⟩ := hv; exact ⟨u, hm.trans h1, h2⟩
  | own ds => obtain ⟨a, vs, n, h1, h2, h3, h4, h5, h6⟩ := hv; exact ⟨a, vs, n, hm.trans h1, (hs a h6).trans h2, h3, h4, h5, h6⟩
  | it a ds => obtain ⟨h1, h2, h3, h4, h5⟩ := hv; exact ⟨hm.trans h1, h2.at' fun o e => (hs a.1 h5).trans e, h3, h4, h5⟩
theorem W.class_free (ok : c.Ev) : (c.env.scope.kind == .class || (c.env.scope.kind == .module && c.env.locals != c.env.globals)) = false := by
  rw [ok.hk]; rfl
theorem W.not_interactive (ok : c.Ev) : interactive c.env = false := by
  show (c.env.scope.kind == .module && _) = false
  rw [ok.hk]; rfl
theorem Upd.loc {x : Str} {v : AV} (h : Upd σ x v σ') : ∃ u, Loc σ x u := by
  induction h with
  | head => exact ⟨_, .head⟩
  | tail _ ih => obtain ⟨u, hu⟩ := ih; exact ⟨u, .tail hu⟩
theorem SameBut.live {p b : Addr} {h h' : Heap} (hs : Heap.SameBut p h h') (hp : h'.get? p ≠ none) (x : h.get? b ≠ none) : h'.get? b ≠ none := by
  by_cases e : b = p
  · rw [e]; exact hp
  · rw [hs.2 b e]; exact x
/-- a local name is stored: what it held is forgotten, what it holds is said by hx -/
theorem W.store (ok : c.Ok) {k g : G} {N : Addr → Prop} {m : Str → Option Value} {s : Shared} {x : Str} {u : Value} {v : AV} {Q : Unit → Shared → Prop} (w : W c k N g m σ s.heap) (hu : Upd σ x v σ')
    (hx : ∀ h', OffFp c.fp s.heap h' → Holds k g c.fp (fun y => if y = x then some u else m y) h' x v)
    (hsep : v.free = true → ∀ y w a, (y, w) ∈ σ → w.free = true → y ≠ x → m y = some (.ref a) → u ≠ .ref a)
    (q : ∀ h' tk, OffFp c.fp s.heap h' → W c k N g (fun y => if y = x then some u else m y) σ' h' → Q () { s with heap := h', toks := tk }) : wpAny c.M c.A (storeName c.env x u) Q EE s := by
  have fin : ∀ h' p, p ∈ c.fp → Heap.SameBut p s.heap h' → h'.get? p ≠ none → FrameAt c.env (fun y => if y = x then some u else m y) h' → OffFp c.fp s.heap h' ∧ W c k N g (fun y => if y = x then some u else m y) σ' h' := by
    intro h' p hp hs hlive hfr
    have off : OffFp c.fp s.heap h' := fun b hb => hs.2 b fun e => hb (e ▸ hp)
    refine ⟨off, { base := w.base, kin := fun b o e => ?_, gin := fun b o e => ?_, fpk := w.fpk, fpl := fun q hq => SameBut.live hs hlive (w.fpl q hq), nN := w.nN, fr := hfr, cel := w.cel, Lfp := w.Lfp, nod := by rw [hu.keys]; exact w.nod, lcl := by rw [hu.keys]; exact w.lcl, loc := fun y a hm => ?_, sep := fun y a z b p h1 h2 h3 h4 h5 h6 => ?_ }⟩
    · rw [off b (fun q => by rw [(w.fpk b q).1] at e; cases e)]; exact w.kin b o e
    · rw [off b (fun q => by rw [(w.fpk b q).2] at e; cases e)]; exact w.gin b o e
    · rcases hu.mem w.nod hm with ⟨rfl, rfl⟩ | ⟨hne, hm'⟩
      · exact hx h' off
      · exact (w.loc y a hm').offFp off (if_neg hne)
    · rcases hu.mem w.nod h1 with ⟨rfl, rfl⟩ | ⟨n1, m1⟩ <;> rcases hu.mem w.nod h2 with ⟨rfl, rfl⟩ | ⟨n2, m2⟩
      · rfl
      · simp only [if_true, if_neg n2] at h5 h6
        exact absurd (Option.some.inj h5) (hsep h3 z b p m2 h4 n2 h6)
      · simp only [if_true, if_neg n1] at h5 h6
        exact absurd (Option.some.inj h6) (hsep h4 y a p m1 h3 n1 h5)
      · rw [if_neg n1] at h5; rw [if_neg n2] at h6
        exact w.sep y a z b p m1 m2 h3 h4 h5 h6
  obtain ⟨v₀, hl⟩ := hu.loc
  rcases w.kind hl with hk | ⟨hk, p, hp⟩
  · obtain ⟨m₀, h1, h2⟩ := w.fr.ns
    refine wpAny_storeName_local hk h1 (fun h' hn hs => ?_) (W.class_free ok.toEv)
    obtain ⟨a, b⟩ := fin h' _ ok.Lfp hs (by obtain ⟨o, _, _, e, _⟩ := hn; rw [e]; exact fun e => nomatch e) ⟨⟨_, hn, fun y hy => by by_cases e : y = x <;> simp [e, h2 y hy]⟩, fun y p hy hp => by
      have hne : y ≠ x := fun e => by rw [e, hk] at hy; cases hy
      simp only [if_neg hne]
      exact (w.fr.cl y p hy hp).sameBut hs (ok.offL y p hp)⟩
    exact q h' _ a b
  · refine wpAny_storeName_cell ok.hk hk hp (w.fr.cl x p hk hp) fun h' hc hs => ?_
    obtain ⟨a, b⟩ := fin h' p (ok.full x p hp) hs (by obtain ⟨o, e, _⟩ := hc; rw [e]; exact fun e => nomatch e) ⟨by
      obtain ⟨m₀, h1, h2⟩ := w.fr.ns
      refine ⟨m₀, h1.sameBut hs (Ne.symm (ok.offL x p hp)), fun y hy => ?_⟩
      have hne : y ≠ x := fun e => by rw [e, hk] at hy; cases hy
      rw [h2 y hy, if_neg hne], fun y p' hy hp' => by
      by_cases e : y = x
      · subst e; rw [hp] at hp'; cases hp'; simpa using hc
      · simp only [if_neg e]
        exact (w.fr.cl y p' hy hp').sameBut hs fun e' => e (ok.apart y x p' hp' (e' ▸ hp))⟩
    exact q h' _ a b
/-- store a datum into a local name -/
theorem W.put (ok : c.Ok) {k g : G} {N : Addr → Prop} {m : Str → Option Value} {s : Shared} {x : Str} {u : Value} {d : D} {Q : Unit → Shared → Prop} (w : W c k N g m σ s.heap) (hr : Rep g u d) (hu : Upd σ x (.val d) σ')
    (h : ∀ h' tk, W c k N g (fun y => if y = x then some u else m y) σ' h' → Q () { s with heap := h', toks := tk }) : wpAny c.M c.A (storeName c.env x u) Q EE s :=
  w.store ok hu (fun _ _ => ⟨u, if_pos rfl, hr⟩) (fun e => nomatch e) fun h' tk _ w' => h h' tk w'
theorem SX.assign (ok : c.Ok) {x : Str} {e : Expr} {p p' : Pos} {d : D} (he : EV c σ e d) (hu : Upd σ x (.val d) σ') (hs : swapsWith e (some (.Name x p')) p.line c.env = pure false) (k : SX c E σ' rest Φ) : SX c E σ (.Assign [.Name x p'] e p :: rest) Φ := by
  refine SX.step fun kk N g m s w => wpAny_Assign_Name (he kk N g m s _ _ w fun v h₁ g₁ t₁ k₁ w₁ l₁ r₁ => ?_) hs
  refine W.put ok w₁ r₁ hu fun h' tk w' => ?_
  exact ⟨h', tk, g₁, _, σ', .next, rfl, w', .next, k⟩
theorem SX.aug (ok : c.Ok) {x : Str} {e : Expr} {op : Operator} {p p' : Pos} {d₀ d₁ d : D} (hl : Loc σ x (.val d₀)) (he : EV c σ e d₁) (ho : OP2 c (inplaceOp op) d₀ d₁ d) (hu : Upd σ x (.val d) σ') (k : SX c E σ' rest Φ) : SX c E σ (.AugAssign (.Name x p') op e p :: rest) Φ := by
  refine SX.step fun kk N g m s w => wpAny_AugAssign_Name ?_
  obtain ⟨u, hm, hr⟩ := w.name hl
  refine w.load ok.toEv hl hm ?_
  refine he kk N g m s _ _ w fun v h₁ g₁ t₁ k₁ w₁ l₁ r₁ => ?_
  refine ho g₁ _ u v _ _ w₁.gin (hr.mono l₁) r₁ fun v h₂ g₂ t₂ k₂ i₂ l₂ s₂ r₂ => ?_
  refine W.put ok (w₁.grow k₂ i₂ l₂ s₂) r₂ hu fun h' tk w' => ?_
  exact ⟨h', tk, g₂, _, σ', .next, rfl, w', .next, k⟩
theorem SX.ite {t : Expr} {b : Bool} {body orelse : List Stmt} {p : Pos} (ht : EVB c σ t b) (h1 : b = true → SX c E σ body (seqT c E rest Φ)) (h2 : b = false → SX c E σ orelse (seqT c E rest Φ)) : SX c E σ (.If t body orelse p :: rest) Φ := by
  refine SX.stepG fun kk N g m s w => wpG.ite (ht kk N g m s _ _ w fun h₁ g₁ t₁ k₁ w₁ l₁ => ?_)
  cases b with
  | true => rw [if_pos rfl]; exact (h1 rfl kk N g₁ m _ w₁).mono (fun _ _ q => q.trans) fun _ _ e => e
  | false => rw [if_neg Bool.false_ne_true]; exact (h2 rfl kk N g₁ m _ w₁).mono (fun _ _ q => q.trans) fun _ _ e => e
theorem SX.ret {e : Expr} {d : D} {p : Pos} (he : EV c σ e d) (h : Φ (.ret d) σ) : SX c E σ (.Return (some e) p :: rest) Φ := by
  refine SX.step fun kk N g m s w => wpAny_Return_some (he kk N g m s _ _ w fun v h₁ g₁ t₁ k₁ w₁ l₁ r₁ => ?_)
  exact ⟨h₁, t₁, g₁, m, σ, .ret d, rfl, w₁, .ret r₁, h⟩
theorem SX.brk {p : Pos} (h : Φ .brk σ) : SX c E σ (.Break p :: rest) Φ :=
  SX.step fun _ _ g m s w => wpAny_Break ⟨s.heap, s.toks, g, m, σ, .brk, rfl, w, .brk, h⟩
/-- own lists -/
theorem SX.newlist (ok : c.Ok) {x : Str} {es : List Expr} {ds : List D} {p p' pl : Pos} (he : EVs c σ es ds) (hn : ds.length ≤ 16777216) (hu : Upd σ x (.own ds) σ') (k : SX c E σ' rest Φ) : SX c E σ (.Assign [.Name x p'] (.List es pl) p :: rest) Φ := by
  refine SX.step fun kk N g m s w => wpAny_Assign_Name ?_ rfl
  refine List_ ?_
  rw [he.plain]
  refine he.splice kk N g m s _ _ w fun vs h₁ g₁ t₁ k₁ w₁ l₁ r₁ => ?_
  refine wpAny_newList ?_ (by rw [r₁.length]; exact hn)
  have hsz := Heap.get?_none_of_le (h := h₁) (Nat.le_refl _)
  have ha : (h₁.push (listObj vs 0)).get? h₁.objs.size = some (listObj vs 0) := Heap.get?_push_size _ rfl
  have w₂ := w₁.keep (Keep.push h₁ (listObj vs 0))
  have hL : h₁.objs.size ∉ c.fp := fun hp => w₁.fpl _ hp hsz
  refine W.store (v := .own ds) (σ' := σ') ok w₂ hu (fun h' off => ⟨h₁.objs.size, vs, 0, if_pos rfl, (off _ hL).trans ha, r₁, w₁.kin.none_size, w₁.gin.none_size, hL⟩) (fun _ y v a hy hf _ hm e => ?_) fun h' tk off w' => ⟨h', tk, g₁, _, σ', .next, rfl, w', .next, k⟩
  cases e
  have hv := w₁.loc y v hy
  cases v with
  | own ds => obtain ⟨a, _, _, q1, q2, _⟩ := hv; rw [hm] at q1; cases q1; exact absurd (Heap.lt_size q2) (Nat.lt_irrefl _)
  | it a ds => obtain ⟨q1, q2, _⟩ := hv; obtain ⟨a, l⟩ := a; rw [hm] at q1; cases q1; exact q2.live hsz
  | un => cases hf
  | val d => cases hf
/-- the object that an own name holds is exchanged -/
theorem W.exch {k g : G} {N : Addr → Prop} {m : Str → Option Value} {h h' : Heap} {x : Str} {a : Addr} {v u : AV} (w : W c k N g m σ h) (hl : Loc σ x v) (hf : v.free = true) (hu : Upd σ x u σ') (hm : m x = some (.ref a)) (hka : k a = none) (hga : g a = none) (hL : a ∉ c.fp)
    (hs : ∀ b o, b ≠ a → h.get? b = some o → h'.get? b = some o) (hx : Holds k g c.fp m h' x u) : W c k N g m σ' h' := by
  have oth : ∀ y w', (y, w') ∈ σ → y ≠ x → Holds k g c.fp m h' y w' := fun y w' hy hne => by
    have hv := w.loc y w' hy
    cases w' with
    | un => trivial
    | val d => exact hv
    | own ds =>
      obtain ⟨b, vs, n, h1, h2, h3, h4, h5, h6⟩ := hv
      have hab : b ≠ a := fun q => hne (w.sep y _ x _ a hy hl.mem rfl hf (q ▸ h1) hm)
      exact ⟨b, vs, n, h1, hs b _ hab h2, h3, h4, h5, h6⟩
    | it b ds =>
      obtain ⟨h1, h2, h3, h4, h5⟩ := hv
      have hab : b.1 ≠ a := fun q => hne (w.sep y _ x _ a hy hl.mem rfl hf (q ▸ h1) hm)
      exact ⟨h1, h2.at' fun o e => hs b.1 _ hab e, h3, h4, h5⟩
  have hne : ∀ p, h.get? p ≠ none → p ≠ a → h'.get? p ≠ none := fun p hp hpa => by
    obtain ⟨o, e⟩ := Option.ne_none_iff_exists'.mp hp
    rw [hs p o hpa e]; exact fun e => nomatch e
  refine { base := w.base, kin := fun b o e => hs b o (fun q => by rw [q, hka] at e; cases e) (w.kin b o e), gin := fun b o e => hs b o (fun q => by rw [q, hga] at e; cases e) (w.gin b o e), fpk := w.fpk, fpl := fun p hp => hne p (w.fpl p hp) fun e => hL (e ▸ hp), nN := w.nN, fr := ⟨?_, fun y p h1 h2 => ?_⟩, cel := w.cel, Lfp := w.Lfp, nod := by rw [hu.keys]; exact w.nod, lcl := by rw [hu.keys]; exact w.lcl, loc := fun y b hy => ?_, sep := fun y a₁ z b p h1 h2 h3 h4 h5 h6 => ?_ }
  · obtain ⟨m₀, h1, h2⟩ := w.fr.ns
    exact ⟨m₀, h1.extBut (fun b o hb e => hs b o hb e) (fun e => hL (e ▸ w.Lfp)), h2⟩
  · obtain ⟨o, e1, e2⟩ := w.fr.cl y p h1 h2
    refine ⟨o, hs p o (fun q => ?_) e1, e2⟩
    subst q
    rcases w.cel y p h2 with q | q
    · exact hL q
    · exact q hka
  · rcases hu.mem w.nod hy with ⟨rfl, rfl⟩ | ⟨n1, m1⟩
    · exact hx
    · exact oth y b m1 n1
  · rcases hu.mem w.nod h1 with ⟨rfl, rfl⟩ | ⟨n1, m1⟩ <;> rcases hu.mem w.nod h2 with ⟨rfl, rfl⟩ | ⟨n2, m2⟩
    · rfl
    · exact w.sep _ _ _ _ p hl.mem m2 hf h4 h5 h6
    · exact w.sep _ _ _ _ p m1 hl.mem h3 hf h5 h6
    · exact w.sep _ _ _ _ p m1 m2 h3 h4 h5 h6
theorem plainList_listObj {h : Heap} {a : Addr} {vs : List Value} {n : Nat} (e : h.get? a = some (listObj vs n)) : h.PlainList a vs.toArray := ⟨n, e⟩
/-- x.append(e) -/
theorem SX.append (ok : c.Ok) {x : Str} {e : Expr} {ds : List D} {d : D} {p p1 p2 p3 : Pos} (hl : Loc σ x (.own ds)) (he : EV c σ e d) (hu : Upd σ x (.own (ds ++ [d])) σ') (hn : ds.length ≤ 16777216)
    (hbase : attributeBase (.Name x p1) "append" c.env (eval (.Name x p1) c.env) = eval (.Name x p1) c.env) (hline : (p2.endLine == p3.line) = true)
    (htrees : backTo p3 (starEach [e] c.env) = [(false, eval e c.env)]) (k : SX c E σ' rest Φ) : SX c E σ (.Expr (.Call (.Attribute (.Name x p1) "append" p2) [e] [] p3) p :: rest) Φ := by
  refine SX.step fun kk N g m s w => wpAny_Expr ?_ (W.not_interactive ok.toEv) rfl
  obtain ⟨a, vs, n, hm, ho, hr, hka, hga, hL⟩ := w.loc x _ hl.mem
  refine wpAny_Call_append hbase (by rw [htrees]; rfl) hline htrees (wpAny_Name (w.load ok.toEv hl hm ?_) (w.nodebug hl))
  refine ⟨a, vs.toArray, rfl, ⟨_, n, ho, rfl, rfl, rfl⟩, ?_⟩
  refine he kk N g m s _ _ w fun v h₁ g₁ t₁ k₁ w₁ l₁ r₁ => ?_
  have ho₁ := k₁ _ _ ho
  have hga₁ : g₁ a = none := by
    obtain ⟨a', vs', n', hm', _, _, _, hga', _⟩ := w₁.loc x _ hl.mem
    rw [hm] at hm'; cases hm'; exact hga'
  refine wpAny_list_append_plain (plainList_listObj ho₁) (fun h₂ hp₂ hs₂ => ?_) (by rw [List.size_toArray, hr.length]; exact hn)
  obtain ⟨n₂, ho₂⟩ := hp₂
  refine ⟨h₂, t₁, g₁, m, σ', .next, rfl, w₁.exch hl rfl hu hm hka hga₁ hL (fun b o hb e => (hs₂.2 b hb).trans e) ⟨a, vs ++ [v], n₂, hm, ?_, (hr.mono l₁).append (.cons r₁ .nil), hka, hga₁, hL⟩, .next, k⟩
  rw [ho₂]; simp [listObj]
/-- return of an own list: it becomes a datum -/
theorem W.freeze {k g : G} {N : Addr → Prop} {m : Str → Option Value} {h : Heap} {x : Str} {ds : List D} (w : W c k N g m σ h) (hl : Loc σ x (.own ds)) (hu : Upd σ x (.val (.list ds)) σ') :
    ∃ a vs n, m x = some (.ref a) ∧ h.get? a = some (listObj vs n) ∧ Le g (g.add a (listObj vs n)) ∧ W c k N (g.add a (listObj vs n)) m σ' h ∧ Rep (g.add a (listObj vs n)) (.ref a) (.list ds) := by
  obtain ⟨a, vs, n, hm, ho, hr, hka, hga, hL⟩ := w.loc x _ hl.mem
  have hle : Le g (g.add a (listObj vs n)) := Le.add hga
  have hrep : Rep (g.add a (listObj vs n)) (.ref a) (.list ds) := .list (G.add_self _ _ _) rfl rfl (hr.mono hle)
  refine ⟨a, vs, n, hm, ho, hle, ?_, hrep⟩
  refine { base := w.base, kin := w.kin, gin := w.gin.add ho, fpk := fun p hp => ⟨(w.fpk p hp).1, ?_⟩, fpl := w.fpl, nN := fun b hb => ⟨(w.nN b hb).1, ?_⟩, fr := w.fr, cel := w.cel, Lfp := w.Lfp, nod := by rw [hu.keys]; exact w.nod, lcl := by rw [hu.keys]; exact w.lcl, loc := fun y b hy => ?_, sep := fun y a₁ z b p h1 h2 h3 h4 h5 h6 => ?_ }
  · rw [G.add_ne (fun (e : p = a) => hL (e ▸ hp))]; exact (w.fpk p hp).2
  · rw [G.add_ne]; exact (w.nN b hb).2
    intro q; exact (w.nN b hb).1 (q ▸ hka)
  · rcases hu.mem w.nod hy with ⟨rfl, rfl⟩ | ⟨n1, m1⟩
    · exact ⟨_, hm, hrep⟩
    · refine (w.loc y b m1).ext hle fun a' hm' hf hg' _ _ _ => ?_
      rw [G.add_ne]; exact hg'
      intro q; exact n1 (w.sep y _ x _ a m1 hl.mem hf rfl (q ▸ hm') hm)
  · rcases hu.mem w.nod h1 with ⟨rfl, rfl⟩ | ⟨n1, m1⟩
    · cases h3
    · rcases hu.mem w.nod h2 with ⟨rfl, rfl⟩ | ⟨n2, m2⟩
      · cases h4
      · exact w.sep _ _ _ _ p m1 m2 h3 h4 h5 h6
theorem SX.freeze {x : Str} {ds : List D} {ss : List Stmt} (hl : Loc σ x (.own ds)) (hu : Upd σ x (.val (.list ds)) σ') (k : SX c E σ' ss Φ) : SX c E σ ss Φ := by
  intro kk N g m s w
  obtain ⟨a, vs, n, _, _, _, w', _⟩ := w.freeze hl hu
  exact k kk N _ m s w'
/-- a scalar datum -/
inductive D.Scalar : D → Prop where
  | none : Scalar .none
  | bool (b) : Scalar (.bool b)
  | int (i) : Scalar (.int i)
  | str (x) : Scalar (.str x)
theorem Rep.any {g g' : G} {v : Value} {d : D} (h : Rep g v d) (hs : d.Scalar) : Rep g' v d := by
  cases hs <;> cases h
  · exact .none
  · exact .bool _
  · exact .int _ _
  · exact .str _ _
/-- an own list may be read as a datum where a scalar comes out -/
theorem EV.frozen {x : Str} {ds : List D} {e : Expr} {d : D} (hl : Loc σ x (.own ds)) (hu : Upd σ x (.val (.list ds)) σ') (hs : d.Scalar) (h : EV c σ' e d) : EV c σ e d := by
  intro k N g m s Q E w q
  obtain ⟨a, vs, n, _, _, _, w', _⟩ := w.freeze hl hu
  exact h k N _ m s Q E w' fun v h₁ g₁ t₁ k₁ _ _ r₁ => q v h₁ g t₁ k₁ (w.keep k₁) (Le.refl _) (r₁.any hs)
theorem EVB.frozen {x : Str} {ds : List D} {e : Expr} {b : Bool} (hl : Loc σ x (.own ds)) (hu : Upd σ x (.val (.list ds)) σ') (h : EVB c σ' e b) : EVB c σ e b := by
  intro k N g m s Q E w q
  obtain ⟨a, vs, n, _, _, _, w', _⟩ := w.freeze hl hu
  exact h k N _ m s Q E w' fun h₁ g₁ t₁ k₁ _ _ => q h₁ g t₁ k₁ (w.keep k₁) (Le.refl _)
end
end Mine
namespace Mine
mutual
noncomputable def D.toPy : D → PyData
  | .none => .none
  | .bool b => .bool b
  | .int i => .int i
  | .str x => .str x
  | .list ds => .list (D.toPys ds)
  | .tup ds => .tuple (D.toPys ds)
  | .raw _ => .none
noncomputable def D.toPys : List D → List PyData
  | [] => []
  | d :: ds => d.toPy :: D.toPys ds
end
mutual
noncomputable def D.pure : D → Bool
  | .list ds | .tup ds => D.pures ds
  | .raw _ => false
  | .str x => PyData.strOk x
  | .none | .bool _ | .int _ => true
noncomputable def D.pures : List D → Bool
  | [] => true
  | d :: ds => d.pure && D.pures ds
end
mutual
theorem Rep.reads {g : G} {h : Heap} (hg : g.In h) : ∀ {v : Value} {d : D}, Rep g v d → d.pure = true → ∃ as, Reads h v d.toPy as
  | _, _, .none, _ => ⟨_, by unfold D.toPy; exact .none⟩
  | _, _, .bool b, _ => ⟨_, by unfold D.toPy; exact .bool b⟩
  | _, _, .int i t, _ => ⟨_, by unfold D.toPy; exact .int i t⟩
  | _, _, .str x t, _ => ⟨_, by unfold D.toPy; exact .str x t⟩
  | _, _, .list h1 h2 h3 h4, hp => by
    unfold D.pure at hp
    obtain ⟨as, hr⟩ := Reps.reads hg h4 hp
    exact ⟨_, by unfold D.toPy; exact .list (hg _ _ h1) h2 h3 (by simpa using hr)⟩
  | _, _, .tup h1 h2 h3 h4, hp => by
    unfold D.pure at hp
    obtain ⟨as, hr⟩ := Reps.reads hg h4 hp
    exact ⟨_, by unfold D.toPy; exact .tuple (hg _ _ h1) h2 h3 (by simpa using hr)⟩
  | _, _, .raw _, hp => by unfold D.pure at hp; cases hp
theorem Reps.reads {g : G} {h : Heap} (hg : g.In h) : ∀ {vs : List Value} {ds : List D}, Reps g vs ds → D.pures ds = true → ∃ as, ReadsAll h vs (D.toPys ds) as
  | _, _, .nil, _ => ⟨_, by unfold D.toPys; exact .nil⟩
  | _, _, .cons h1 h2, hp => by
    unfold D.pures at hp
    rw [Bool.and_eq_true] at hp
    obtain ⟨as, h3⟩ := Rep.reads hg h1 hp.1
    obtain ⟨bs, h4⟩ := Reps.reads hg h2 hp.2
    exact ⟨_, by unfold D.toPys; exact .cons h3 h4⟩
end
mutual
theorem D.canLay : ∀ d : D, d.pure = true → d.toPy.canLay0 = true
  | .none, _ | .bool _, _ | .int _, _ => by unfold D.toPy PyData.canLay0; rfl
  | .str x, h => by unfold D.pure at h; unfold D.toPy PyData.canLay0; exact h
  | .list ds, h => by unfold D.pure at h; unfold D.toPy PyData.canLay0; exact D.canLays ds h
  | .tup ds, h => by unfold D.pure at h; unfold D.toPy PyData.canLay0; exact D.canLays ds h
  | .raw _, h => by unfold D.pure at h; cases h
theorem D.canLays : ∀ ds : List D, D.pures ds = true → PyData.canLayAll0 (D.toPys ds) = true
  | [], _ => by unfold D.toPys PyData.canLayAll0; rfl
  | d :: ds, h => by unfold D.pures at h; rw [Bool.and_eq_true] at h; unfold D.toPys PyData.canLayAll0; rw [D.canLay d h.1, D.canLays ds h.2]; rfl
end
noncomputable def GL (c : Cfg) (x : Str) (v : Option Value) : Prop := c.env.kindOf x = some .globalImplicit ∧ (x == ("__debug__" : Str)) = false ∧ c.mg x = v
structure Cfg.Is (c : Cfg) (prog : Program) (w : World) (h₁ : Heap) (mg : Str → Option Value) : Prop where
  prog : c.prog = prog
  w : c.w = w
  h : c.h₁ = h₁
  mg : c.mg = mg
section
variable {c : Cfg} {σ σ' : Sig} {E : ERes} {EE : Value → Shared → Prop} {Φ : AFlow → Sig → Prop} {rest : List Stmt}
theorem W.keep₁ {k g : G} {N : Addr → Prop} {m : Str → Option Value} {h : Heap} (w : W c k N g m σ h) : Keep c.h₁ h := fun b o e => w.kin _ _ (w.base b o e)
theorem W.global (ok : c.Ev) {k g : G} {N : Addr → Prop} {m : Str → Option Value} {s : Shared} {x : Str} {v : Value} {pos : Pos} {Q : Value → Shared → Prop} (w : W c k N g m σ s.heap) (hx : GL c x (some v)) (h : Q v s) : wpAny c.M c.A (eval (.Name x pos) c.env) Q EE s :=
  Calls.Name_function_global ok.hk hx.1 (Calls.loadGlobal_global (by rw [ok.hg]; exact ok.st.g.keeps w.keep₁) hx.2.2 h) hx.2.1
theorem W.builtin (ok : c.Ev) {k g : G} {N : Addr → Prop} {m : Str → Option Value} {s : Shared} {x : Str} {v : Value} {pos : Pos} {Q : Value → Shared → Prop} (w : W c k N g m σ s.heap) (hx : GL c x none) (hb : bootBuiltins x = some v) (hn : x ≠ "__name__") (h : Q v s) : wpAny c.M c.A (eval (.Name x pos) c.env) Q EE s :=
  Calls.Name_function_global ok.hk hx.1 (Calls.loadGlobal_builtin (by rw [ok.hg]; exact ok.st.g.keeps w.keep₁) hx.2.2 (by rw [ok.hb]; exact ok.st.b.keeps w.keep₁) ((ok.st.bi x hn).trans hb) h) hx.2.1
/-- arguments of a call -/
theorem EVs.args {e : Expr} {es : List Expr} {ds : List D} {f : Value} {pos : Pos} (h : EVs c σ (e :: es) ds) (k : G) (N : Addr → Prop) (g : G) (m : Str → Option Value) (s : Shared) (Q : Args → Shared → Prop) (w : W c k N g m σ s.heap)
    (q : ∀ vs h' g' tk, Keep s.heap h' → W c k N g' m σ h' → Le g g' → Reps g' vs ds → Q ⟨vs, []⟩ { s with heap := h', toks := tk }) : wpAny c.M c.A (evalArgs f true (backTo pos (starEach (e :: es) c.env)) []) Q EE s := by
  rw [h.plain]
  have := h.splice k N g m s (fun vs s' => Q ⟨vs, []⟩ s') EE w q
  exact Calls.evalArgs_plain this
theorem EVs.noStar {es : List Expr} {ds : List D} {pos : Pos} (h : EVs c σ es ds) : (backTo pos (starEach es c.env)).any (·.1) = false := by
  rw [h.plain]; simp
/-- what a def of the text gives -/
noncomputable def FN (prog : Program) (w : World) (h₁ : Heap) (f : Addr) (n : Nat) (args : List D) (r : D) : Prop :=
  ∀ (A : Around) (s : Shared) (g : G) (vs : List Value) (Q E : Value → Shared → Prop), A.handled = none → A.depth + n < recursionLimit → A.units + 8 * n + 64 < cLine → Keep h₁ s.heap → g.In s.heap → Reps g vs args →
    (∀ v h' g' tk, Keep s.heap h' → g'.In h' → Le g g' → (∀ b, s.heap.get? b ≠ none → g' b = g b) → Rep g' v r → Q v { s with heap := h', toks := tk }) → wpAny (model prog w) A (call (.ref f) vs) Q E s
noncomputable def IsFn (h₁ : Heap) (f : Addr) : Prop := ∃ o fd, h₁.get? f = some o ∧ o.data = .func fd
theorem EV.call {prog : Program} {w : World} {h₁ : Heap} {mg : Str → Option Value} (ok : c.Ev) (is : c.Is prog w h₁ mg) {x : Str} {p pos : Pos} {e : Expr} {es : List Expr} {ds : List D} {f : Addr} {n : Nat} {r : D} (hx : GL c x (some (.ref f))) (hf : IsFn h₁ f) (hs : EVs c σ (e :: es) ds) (hF : FN prog w h₁ f n ds r)
    (hdp : c.A.depth + n < recursionLimit) (hun : c.A.units + 8 * n + 64 < cLine) : EV c σ (.Call (.Name x p) (e :: es) [] pos) r := by
  obtain ⟨rfl, rfl, rfl, rfl⟩ := is
  intro k N g m s Q E w q
  refine wpAny_Call_NameR (W.global ok w hx ?_)
  obtain ⟨o, fd, ho, hfd⟩ := hf
  refine Calls.callWith_function (o := o) (fd := fd) (hs.args k N g m s _ w fun vs h₁ g₁ t₁ k₁ w₁ l₁ r₁ => ⟨⟨w₁.keep₁ _ _ ho, hfd⟩, ?_⟩)
  refine hF c.A _ g₁ vs _ E ok.hh hdp hun w₁.keep₁ w₁.gin r₁ fun v h₂ g₂ t₂ k₂ i₂ l₂ s₂ r₂ => ?_
  exact q v h₂ g₂ t₂ (k₁.trans k₂) (w₁.grow k₂ i₂ l₂ s₂) (l₁.trans l₂) r₂
theorem Rep.isList {g : G} {s : Shared} {v : Value} {ds : List D} (hr : Rep g v (.list ds)) (hg : g.In s.heap) : ∃ a vs, v = .ref a ∧ s.heap.IsList a vs.toArray ∧ Reps g vs ds := by
  cases hr with
  | list h1 h2 h3 h4 => exact ⟨_, _, rfl, ⟨_, hg _ _ h1, h2, _, h3⟩, h4⟩
theorem Rep.isTup {g : G} {s : Shared} {v : Value} {ds : List D} (hr : Rep g v (.tup ds)) (hg : g.In s.heap) : ∃ a vs, v = .ref a ∧ IsTup s.heap a vs.toArray ∧ Reps g vs ds := by
  cases hr with
  | tup h1 h2 h3 h4 => exact ⟨_, _, rfl, ⟨_, hg _ _ h1, h2, _, h3⟩, h4⟩
/-- len of a list -/
theorem EV.len (ok : c.Ev) {p pos : Pos} {e : Expr} {ds : List D} (hx : GL c "len" none) (he : EVs c σ [e] [.list ds]) (hn : ds.length ≤ 16777216) : EV c σ (.Call (.Name "len" p) [e] [] pos) (.int ds.length) := by
  intro k N g m s Q E w q
  refine wpAny_Call_NameR (W.builtin ok w hx (v := .builtin "len") (by decide +kernel) (by decide) ?_)
  refine Calls.callWith_builtin he.noStar (he.args k N g m s _ w fun vs h₁ g₁ t₁ k₁ w₁ l₁ r₁ => ?_)
  cases r₁ with
  | cons r₁ r₂ =>
    cases r₂
    obtain ⟨a, us, rfl, hl, hr⟩ := r₁.isList w₁.gin (s := { s with heap := h₁, toks := t₁ })
    refine Calls.call_len_list hl (by rw [List.size_toArray, hr.length]; omega) ?_
    rw [List.size_toArray, hr.length]
    exact q _ h₁ g₁ _ k₁ w₁ l₁ (.int _ _)
theorem EV.len_str (ok : c.Ev) {p pos : Pos} {e : Expr} {x : Str} (hx : GL c "len" none) (he : EVs c σ [e] [.str x]) (hn : x.length ≤ 16777216) : EV c σ (.Call (.Name "len" p) [e] [] pos) (.int x.length) := by
  intro k N g m s Q E w q
  refine wpAny_Call_NameR (W.builtin ok w hx (v := .builtin "len") (by decide +kernel) (by decide) ?_)
  refine Calls.callWith_builtin he.noStar (he.args k N g m s _ w fun vs h₁ g₁ t₁ k₁ w₁ l₁ r₁ => ?_)
  cases r₁ with
  | cons r₁ r₂ =>
    cases r₂; cases r₁
    exact PySem.P.len_str (by omega) (q _ h₁ g₁ _ k₁ w₁ l₁ (.int _ _))
/-- items -/
noncomputable def idx (i : Int) (n : Nat) : Nat := (if i < 0 then i + n else i).toNat
theorem EV.item {e i : Expr} {pos : Pos} {ds : List D} {j : Int} {d : D} (he : EV c σ e (.list ds)) (hi : EV c σ i (.int j)) (h1 : -(ds.length : Int) ≤ j) (h2 : j < ds.length) (hn : ds.length ≤ 16777216) (hd : ds[idx j ds.length]? = some d)
    (hs : ∀ o k, subscripted i false o k = operate [o, k] (getItem o k)) : EV c σ (.Subscript e i pos) d := by
  intro k N g m s Q E w q
  refine Subscript_ (he k N g m s _ _ w fun v₁ h₁ g₁ t₁ k₁ w₁ l₁ r₁ => ?_)
  refine hi k N g₁ m _ _ _ w₁ fun v₂ h₂ g₂ t₂ k₂ w₂ l₂ r₂ => ?_
  cases r₂
  obtain ⟨a, us, rfl, hl, hr⟩ := (r₁.mono l₂).isList w₂.gin (s := { s with heap := h₂, toks := t₂ })
  obtain ⟨u, hu, hru⟩ := hr.get hd
  have hq := q u h₂ g₂ t₂ (k₁.trans k₂) w₂ (l₁.trans l₂) hru
  have hsz : us.toArray.size = ds.length := by rw [List.size_toArray, hr.length]
  refine tail_any hl.typeIs slot_list_getitem.lookup ?_ (hs _ _)
  by_cases h0 : j < 0
  · refine wpAny_getItem_list_neg hl h0 (by rw [hsz]; exact h1) (by omega) ?_ hq
    rw [hsz]; simp only [idx, if_pos h0] at hu; simpa using hu
  · refine wpAny_getItem_list hl (by omega) (by omega) ?_ hq
    simp only [idx, if_neg h0] at hu; simpa using hu
theorem EV.item_tup {e i : Expr} {pos : Pos} {ds : List D} {j : Int} {d : D} (he : EV c σ e (.tup ds)) (hi : EV c σ i (.int j)) (h1 : 0 ≤ j) (h2 : j < ds.length) (hn : ds.length ≤ 16777216) (hd : ds[j.toNat]? = some d)
    (hs : ∀ o k, subscripted i false o k = operate [o, k] (getItem o k)) : EV c σ (.Subscript e i pos) d := by
  intro k N g m s Q E w q
  refine Subscript_ (he k N g m s _ _ w fun v₁ h₁ g₁ t₁ k₁ w₁ l₁ r₁ => ?_)
  refine hi k N g₁ m _ _ _ w₁ fun v₂ h₂ g₂ t₂ k₂ w₂ l₂ r₂ => ?_
  cases r₂
  obtain ⟨a, us, rfl, hl, hr⟩ := (r₁.mono l₂).isTup w₂.gin (s := { s with heap := h₂, toks := t₂ })
  obtain ⟨u, hu, hru⟩ := hr.get hd
  have hq := q u h₂ g₂ t₂ (k₁.trans k₂) w₂ (l₁.trans l₂) hru
  refine item_tupleT (j := j.toNat) hl (by omega) (by omega) ?_ hu hq (hs _ _)
  rw [hr.length]; unfold seqIndex?
  have : ¬ j < 0 := by omega
  simp [this]; omega
theorem OP2.ne_data (ok : c.Ev) {d₁ d₂ : D} (h1 : d₁.pure = true) (h2 : d₂.pure = true) (hd : min d₁.toPy.depth d₂.toPy.depth ≤ 64) : OP2 c (compareOp .NotEq) d₁ d₂ (.bool (!PyData.eqv d₁.toPy d₂.toPy)) := .of fun s g v₁ v₂ Q E hg r1 r2 q => by
  obtain ⟨as, ra⟩ := r1.reads hg h1
  obtain ⟨bs, rb⟩ := r2.reads hg h2
  exact SeqAt.compareNe_reads ra rb (d₁.canLay h1) (d₂.canLay h2) (by have := ok.un; omega) (q _ s.toks (.bool _))
theorem pures_strs : ∀ xs : List Str, (∀ x ∈ xs, PyData.strOk x = true) → D.pures (xs.map .str) = true
  | [], _ => rfl
  | x :: xs, h => by simp only [List.map_cons, D.pures, D.pure, pures_strs xs fun y hy => h y (.tail _ hy), h x (.head _)]; rfl
theorem toPys_strs : ∀ xs : List Str, D.toPys (xs.map .str) = xs.map .str
  | [] => rfl
  | x :: xs => by simp only [List.map_cons, D.toPys, D.toPy, toPys_strs xs]
theorem depthAll_scalar {α : Type} (f : α → PyData) (hf : ∀ a, (f a).depth = 0) : ∀ xs : List α, PyData.depthAll (xs.map f) = 0
  | [] => by simp [PyData.depthAll]
  | x :: xs => by simp only [List.map_cons, PyData.depthAll, hf, depthAll_scalar f hf xs]; rfl
/-- a list compared with [] -/
theorem OP2.eq_nil (ok : c.Ev) {ds : List D} : OP2 c (compareOp .Eq) (.list ds) (.list []) (.bool ds.isEmpty) := .of fun s g v₁ v₂ Q E hg r1 r2 q => by
  obtain ⟨a, us, rfl, hl, hr⟩ := r1.isList hg (s := s)
  obtain ⟨b, ws, rfl, hl', hr'⟩ := r2.isList hg (s := s)
  cases hr'
  have hu : c.A.units < cLine := by have := ok.un; omega
  have hq := q (.bool ds.isEmpty) s.toks (.bool _)
  cases hr with
  | nil => exact SeqAt.RcAt.lists (e := fun _ => true) hl hl' rfl hu (fun j h => absurd h (Nat.not_lt_zero _)) c.prog c.w E Q (by simpa using hq)
  | cons _ _ => exact SeqAt.RcAt.lists_lengths hl hl' (by simp) hu c.prog c.w E Q hq
theorem OP2.ne_nil (ok : c.Ev) {ds : List D} : OP2 c (compareOp .NotEq) (.list ds) (.list []) (.bool (!ds.isEmpty)) := .of fun s g v₁ v₂ Q E hg r1 r2 q => by
  obtain ⟨a, us, rfl, hl, hr⟩ := r1.isList hg (s := s)
  obtain ⟨b, ws, rfl, hl', hr'⟩ := r2.isList hg (s := s)
  cases hr'
  have hu : c.A.units < cLine := by have := ok.un; omega
  have hq := q (.bool (!ds.isEmpty)) s.toks (.bool _)
  cases hr with
  | nil => exact SeqAt.RcNeAt.lists (e := fun _ => true) hl hl' rfl hu (fun j h => absurd h (Nat.not_lt_zero _)) c.prog c.w E Q (by simpa using hq)
  | cons _ _ => exact SeqAt.RcNeAt.lists_lengths hl hl' (by simp) hu c.prog c.w E Q hq
theorem Reps.strs {g : G} : ∀ {vs : List Value} {xs : List Str}, Reps g vs (xs.map .str) → StrsAre vs xs
  | _, [], .nil => .nil
  | _, x :: xs, .cons h1 h2 => by cases h1; exact .cons _ _ (Reps.strs h2)
/-- in -/
theorem OP2.in_strs {x : Str} {ys : List Str} : OP2 c (compareOp .In) (.str x) (.list (ys.map .str)) (.bool (ys.any (· == x))) := .of fun s g v₁ v₂ Q E hg r1 r2 q => by
  cases r1
  obtain ⟨a, us, rfl, hl, hr⟩ := r2.isList hg (s := s)
  exact in_list_strs hl hr.strs (q _ s.toks (.bool _))
end
end Mine
namespace Mine
section
variable {c : Cfg} {σ σ' : Sig} {E : ERes} {EE : Value → Shared → Prop} {Φ : AFlow → Sig → Prop} {rest : List Stmt}
/-- something that a for goes over -/
noncomputable def IT (c : Cfg) (σ : Sig) (iter : Expr) (ds : List D) : Prop :=
  ∀ (k : G) (N : Addr → Prop) (g : G) (m : Str → Option Value) (s : Shared) (Q E : Value → Shared → Prop), W c k N g m σ s.heap →
    (∀ I fp n P St h' g' tk, Keep s.heap h' → W c k N g' m σ h' → Le g g' → Walks c.prog c.w c.A I fp [I] n P St → St 0 h' → h'.get? I ≠ none → s.heap.get? I = none → g' I = none → (∀ b ∈ fp, b = I ∨ g' b ≠ none) → n = ds.length →
      (∀ i v d, P i v → ds[i]? = some d → Rep g' v d) → (∀ i h, St i h → h.get? I ≠ none) → Q (.ref I) { s with heap := h', toks := tk }) →
    wpAny c.M c.A (eval iter c.env) (fun x s₁ => wpAny c.M c.A (pyIter x) Q E s₁) E s
theorem IT.list (ok : c.Ev) {e : Expr} {ds : List D} (he : EV c σ e (.list ds)) : IT c σ e ds := by
  intro k N g m s Q E w q
  refine he k N g m s _ _ w fun v h₁ g₁ t₁ k₁ w₁ l₁ r₁ => ?_
  cases r₁ with
  | @list a o vs n _ h1 h2 h3 h4 =>
    have hl : h₁.IsList a vs.toArray := ⟨_, w₁.gin _ _ h1, h2, _, h3⟩
    refine wpAny_pyIter_list hl ?_
    have hsz := Heap.get?_none_of_le (h := h₁) (Nat.le_refl _)
    have hne : a ≠ h₁.objs.size := Nat.ne_of_lt (Heap.lt_size (w₁.gin _ _ h1))
    have hI : (h₁.push { cls := .type "list_iterator", data := .fields #[.ref a, .int 0 0] }).get? h₁.objs.size = some { cls := .type "list_iterator", data := .fields #[.ref a, .int 0 0] } := Heap.get?_push_size _ rfl
    refine q h₁.objs.size _ _ _ _ _ g₁ t₁ (k₁.trans (Keep.push _ _)) (w₁.keep (Keep.push _ _)) l₁ (Walks.list ok.hh h₁.objs.size a hne vs.toArray) ⟨⟨_, hI, rfl, rfl⟩, hl.push _⟩ (by rw [hI]; exact fun e => nomatch e) ?_ w₁.gin.none_size ?_ (by simp [h4.length]) ?_ ?_
    · cases e : s.heap.get? h₁.objs.size with
      | none => rfl
      | some o => rw [k₁ _ _ e] at hsz; cases hsz
    · intro b hb
      rcases List.mem_cons.mp hb with rfl | hb
      · exact .inl rfl
      · rw [List.mem_singleton.mp hb, h1]; exact .inr fun e => nomatch e
    · intro i v d hP hd
      obtain ⟨u, hu, hr⟩ := h4.get hd
      have : vs[i]? = some v := by simpa using hP
      rw [hu] at this; cases this; exact hr
    · intro i h ⟨⟨o, e, _⟩, _⟩; rw [e]; exact fun e => nomatch e
noncomputable def upto (n : Nat) : List D := (List.range n).map fun (i : Nat) => .int (i : Int)
theorem IT.range (ok : c.Ev) {p pos : Pos} {e : Expr} {n : Nat} (hx : GL c "range" none) (he : EVs c σ [e] [.int n]) (hn : n ≤ 16777216) : IT c σ (.Call (.Name "range" p) [e] [] pos) (upto n) := by
  intro k N g m s Q E w q
  refine wpAny_Call_NameR (W.builtin ok w hx (v := .type "range") (by decide +kernel) (by decide) ?_)
  refine PySem.callWith_type he.noStar (he.args k N g m s _ w fun vs h₁ g₁ t₁ k₁ w₁ l₁ r₁ => ?_)
  cases r₁ with
  | cons r₁ r₂ =>
    cases r₂; cases r₁; rename_i tn
    refine call_range_1 ?_
    have hR : IsRange (h₁.push { cls := .type "range", data := .fields #[.int 0 t₁, .int n tn, .int 1 (t₁ + 1)] }) h₁.objs.size 0 n 1 t₁ tn (t₁ + 1) := Heap.get?_push_size _ rfl
    have hsize : Builtin.Range.rangeSize 0 (n : Int) 1 = n := by
      unfold Builtin.Range.rangeSize; simp; omega
    have hsmall : Builtin.Range.small 0 (n : Int) 1 = true := by
      unfold Builtin.Range.small
      rw [hsize]
      simp [Builtin.Range.rangeFitsLong]; omega
    refine wpAny_pyIter_range hR hsmall ?_
    dsimp only
    rw [hsize]
    generalize hh₂ : (h₁.push { cls := .type "range", data := .fields #[.int 0 t₁, .int n tn, .int 1 (t₁ + 1)] }) = h₂
    have k₂ : Keep h₁ h₂ := hh₂ ▸ Keep.push _ _
    have w₂ := w₁.keep k₂
    have hsz := Heap.get?_none_of_le (h := h₂) (Nat.le_refl _)
    have hI : (h₂.push { cls := .type "range_iterator", data := .fields #[rawInt 0, rawInt n, rawInt 1] }).get? h₂.objs.size = some { cls := .type "range_iterator", data := .fields #[rawInt 0, rawInt n, rawInt 1] } := Heap.get?_push_size _ rfl
    refine q h₂.objs.size _ _ _ _ _ g₁ _ (k₁.trans (k₂.trans (Keep.push _ _))) (w₂.keep (Keep.push _ _)) l₁ (Walks.range ok.hh h₂.objs.size 0 1 n) ?_ (by rw [hI]; exact fun e => nomatch e) ?_ w₂.gin.none_size ?_ (by simp [upto]) ?_ ?_
    · simpa using hI
    · cases e : s.heap.get? h₂.objs.size with
      | none => rfl
      | some o => rw [k₂ _ _ (k₁ _ _ e)] at hsz; cases hsz
    · intro b hb; exact .inl (List.mem_singleton.mp hb)
    · intro i v d ⟨t, hv⟩ hd
      subst hv
      simp only [upto, List.getElem?_map, Option.map_eq_some_iff] at hd
      obtain ⟨j, hj, rfl⟩ := hd
      have : j = i := by
        rw [List.getElem?_range (by have := List.getElem?_eq_some_iff.mp hj; obtain ⟨h, _⟩ := this; simpa using h)] at hj
        exact (Option.some.inj hj).symm
      subst this
      simpa using Rep.int _ _
    · intro i h e; rw [show h.get? _ = _ from e]; exact fun e => nomatch e
/-- the frame of a loop: all data stay, I stays out of the data -/
theorem W.into {k g : G} {N : Addr → Prop} {m : Str → Option Value} {h : Heap} {I : Addr} {o : Obj} (w : W c k N g m σ h) (hI : h.get? I = some o) (hgI : g I = none) (hkI : k I = none) (hIL : I ∉ c.fp) (hIo : ∀ x v, (x, v) ∈ σ → v.free = true → m x ≠ some (.ref I)) :
    W c ((k.or g).add I o) (fun b => N b ∨ b = I) g m σ h := by
  have hk : Le k ((k.or g).add I o) := (Le.or_left k g).trans (Le.add (G.or_none hkI hgI))
  have hne : ∀ b, k b ≠ none → ((k.or g).add I o) b ≠ none := fun b hb => by
    cases q : k b with
    | none => exact absurd q hb
    | some p => rw [hk _ _ q]; exact fun e => nomatch e
  refine { w with base := fun b o e => hk _ _ (w.base b o e), kin := (w.kin.or w.gin).add hI, fpk := fun p hp => ⟨?_, (w.fpk p hp).2⟩, nN := fun b hb => ?_, cel := fun x p h => (w.cel x p h).imp id (hne p), loc := fun x v hm => ?_ }
  · rw [G.add_ne (fun (e : p = I) => hIL (e ▸ hp))]; exact G.or_none (w.fpk p hp).1 (w.fpk p hp).2
  · rcases hb with hb | rfl
    · exact ⟨hne b (w.nN b hb).1, (w.nN b hb).2⟩
    · refine ⟨?_, hgI⟩; rw [G.add_self]; exact fun e => nomatch e
  · have hv := w.loc x v hm
    cases v with
    | un => trivial
    | val d => exact hv
    | own ds =>
      obtain ⟨a, vs, n, h1, h2, h3, h4, h5, h6⟩ := hv
      exact ⟨a, vs, n, h1, h2, h3, by rw [G.add_ne (fun (q : a = I) => hIo x _ hm rfl (q ▸ h1))]; exact G.or_none h4 h5, h5, h6⟩
    | it a ds =>
      obtain ⟨h1, h2, h3, h4, h5⟩ := hv
      exact ⟨h1, h2, by rw [G.add_ne (fun (q : a.1 = I) => hIo x _ hm rfl (q ▸ h1))]; exact G.or_none h3 h4, h4, h5⟩
theorem G.none_of_le {k k' : G} (hl : Le k k') {b : Addr} (e : k' b = none) : k b = none := by
  cases q : k b with
  | none => rfl
  | some o => rw [hl _ _ q] at e; cases e
theorem W.out {k k' g g₁ : G} {N N' : Addr → Prop} {m : Str → Option Value} {h : Heap} (w : W c k' N' g m σ h) (hb : ∀ b o, c.h₁.get? b = some o → k b = some o) (hl : Le k k') (hg : Le g₁ k') (hN : ∀ b, N b → N' b) (hNk : ∀ b, N b → k b ≠ none ∧ g₁ b = none)
    (hcel : ∀ x p, c.env.cells.lookup x = some p → p ∈ c.fp ∨ k p ≠ none) :
    W c k N (g.or g₁) m σ h ∧ Le g₁ (g.or g₁) ∧ Le g (g.or g₁) := by
  have hin : g₁.In h := fun b o e => w.kin b o (hg _ _ e)
  refine ⟨{ w with base := hb, kin := fun b o e => w.kin b o (hl _ _ e), gin := w.gin.or hin, fpk := fun p hp => ⟨G.none_of_le hl (w.fpk p hp).1, G.or_none (w.fpk p hp).2 (G.none_of_le hg (w.fpk p hp).1)⟩, nN := fun b hb => ⟨(hNk b hb).1, G.or_none (w.nN b (hN b hb)).2 (hNk b hb).2⟩, cel := hcel, loc := fun x v hm => ?_ }, Le.or_right w.gin hin, Le.or_left _ _⟩
  have hv := w.loc x v hm
  cases v with
  | un => trivial
  | val d => obtain ⟨u, h1, h2⟩ := hv; exact ⟨u, h1, h2.mono (Le.or_left _ _)⟩
  | own ds => obtain ⟨a, vs, n, h1, h2, h3, h4, h5, h6⟩ := hv; exact ⟨a, vs, n, h1, h2, h3.mono (Le.or_left _ _), G.none_of_le hl h4, G.or_none h5 (G.none_of_le hg h4), h6⟩
  | it a ds => obtain ⟨h1, h2, h3, h4, h5⟩ := hv; exact ⟨h1, h2.mono (Le.or_left _ _), G.none_of_le hl h3, G.or_none h4 (G.none_of_le hg h3), h5⟩
/-- what a turn of a loop must end in -/
noncomputable def turnT (c : Cfg) (E : ERes) (rest : List Stmt) (Φ : AFlow → Sig → Prop) (J : Sig → Prop) : AFlow → Sig → Prop
  | .next, σ | .cont, σ => J σ
  | .brk, σ => SX c E σ rest Φ
  | .ret d, σ => Φ (.ret d) σ
theorem W.free_ne {k g : G} {N : Addr → Prop} {m : Str → Option Value} {h : Heap} {x : Str} {v : AV} {a : Addr} (w : W c k N g m σ h) (hm : (x, v) ∈ σ) (hf : v.free = true) (hx : m x = some (.ref a)) : h.get? a ≠ none ∧ k a = none ∧ g a = none := by
  have hv := w.loc x v hm
  cases v with
  | un => cases hf
  | val d => cases hf
  | own ds => obtain ⟨a', _, _, h1, h2, _, h4, h5, _⟩ := hv; rw [hx] at h1; cases h1; refine ⟨?_, h4, h5⟩; rw [h2]; exact fun e => nomatch e
  | it a' ds => obtain ⟨h1, h2, h3, h4, h5⟩ := hv; obtain ⟨a', l⟩ := a'; rw [hx] at h1; cases h1; exact ⟨h2.live, h3, h4⟩
theorem SX.forIn (ok : c.Ok) {x : Str} {px pos : Pos} {iter : Expr} {body : List Stmt} {ds : List D} (J : Nat → Sig → Prop) (hi : IT c σ iter ds) (h0 : J 0 σ)
    (turn : ∀ i d σ₁, ds[i]? = some d → J i σ₁ → ∃ σ₂, Upd σ₁ x (.val d) σ₂ ∧ SX c E σ₂ body (turnT c E rest Φ (J (i + 1))))
    (done : ∀ σ₁, J ds.length σ₁ → SX c E σ₁ rest Φ) (hs : ∀ v, foldedSetIterable iter c.env v = pure v) : SX c E σ (.For (.Name x px) iter body [] pos :: rest) Φ := by
  refine SX.stepG fun k N g m s w => wpG.for (hi k N g m s _ _ w fun I fp n P St h₁ g₁ t₁ k₁ w₁ l₁ Wk st₁ hI hIn hgI hfp hlen hP hlive => ?_) hs
  subst hlen
  have hIk : k I = none := by
    cases q : k I with
    | none => rfl
    | some o => rw [w.kin _ _ q] at hIn; cases hIn
  have hIL : I ∉ c.fp := fun e => w.fpl I e hIn
  refine codeG.for
    (fun n s' => ∃ h' tk g' m' σ' i, s' = { s with heap := h', toks := tk } ∧ W c k N g' m' σ' h' ∧ Le g₁ g' ∧ St i h' ∧ J i σ' ∧ i ≤ ds.length ∧ n = ds.length + 1 - i ∧ g' I = none ∧ (∀ x v, (x, v) ∈ σ' → v.free = true → m' x ≠ some (.ref I)))
    ?_ (ds.length + 1) ⟨h₁, t₁, g₁, m, σ, 0, rfl, w₁, Le.refl _, st₁, h0, Nat.zero_le _, rfl, hgI, ?_⟩
  · rintro n s' ⟨h', tk, g', m', σ', i, rfl, w', l', st', hJ, hle, rfl, hgI', hIo⟩
    have step : ∀ {h₂ : Heap}, (∀ b o, b ∉ [I] → h'.get? b = some o → h₂.get? b = some o) → W c k N g' m' σ' h₂ := by
      intro h₂ hk₂
      have hsame : ∀ b o, b ≠ I → h'.get? b = some o → h₂.get? b = some o := fun b o hb e => hk₂ b o (fun q => hb (List.mem_singleton.mp q)) e
      have hne : ∀ p, h'.get? p ≠ none → p ≠ I → h₂.get? p ≠ none := fun p hp hpa => by
        obtain ⟨o, e⟩ := Option.ne_none_iff_exists'.mp hp
        rw [hsame p o hpa e]; exact fun e => nomatch e
      refine { w' with kin := fun b o e => hsame b o (fun q => by rw [q, hIk] at e; cases e) (w'.kin b o e), gin := fun b o e => hsame b o (fun q => by rw [q, hgI'] at e; cases e) (w'.gin b o e), fpl := fun p hp => hne p (w'.fpl p hp) (fun e => hIL (e ▸ hp)), fr := ⟨?_, fun y p h1 h2 => ?_⟩, loc := fun x v hm => ?_ }
      · obtain ⟨m₀, h1, h2⟩ := w'.fr.ns
        exact ⟨m₀, h1.extBut (fun b o hb e => hsame b o hb e) (fun e => hIL (e ▸ w'.Lfp)), h2⟩
      · obtain ⟨o, e1, e2⟩ := w'.fr.cl y p h1 h2
        refine ⟨o, hsame p o (fun q => ?_) e1, e2⟩
        subst q
        rcases w'.cel y p h2 with q | q
        · exact hIL q
        · exact q hIk
      · have hv := w'.loc x v hm
        cases v with
        | un => trivial
        | val d => exact hv
        | own ds => obtain ⟨a, vs, n, h1, h2, r⟩ := hv; exact ⟨a, vs, n, h1, hsame a _ (fun q => hIo x _ hm rfl (q ▸ h1)) h2, r⟩
        | it a ds => obtain ⟨h1, h2, r⟩ := hv; exact ⟨h1, h2.at' fun o e => hsame a.1 _ (fun q => hIo x _ hm rfl (q ▸ h1)) e, r⟩
    by_cases hlt : i < ds.length
    · refine Wk.item i _ _ _ hlt st' fun v h₂ tk₂ hPv st₂ hk₂ => ?_
      have hd : ds[i]? = some ds[i] := by simp [hlt]
      have w₂ := step hk₂
      obtain ⟨σ₂, hu, hbody⟩ := turn i ds[i] σ' hd hJ
      refine wpAny_assign_Name (W.store (v := .val ds[i]) (σ' := σ₂) ok w₂ hu (fun _ _ => ⟨v, if_pos rfl, (hP i v _ hPv hd).mono l'⟩) (fun e => nomatch e) fun h₃ tk₃ off w₃ => ?_)
      have hI₃ : ∀ y u, (y, u) ∈ σ₂ → u.free = true → (fun y => if y = x then some v else m' y) y ≠ some (Value.ref I) := by
        intro y u hm hf
        rcases hu.mem w₂.nod hm with ⟨rfl, rfl⟩ | ⟨n1, m1⟩
        · cases hf
        · dsimp only; rw [if_neg n1]; exact hIo y u m1 hf
      have hg₁L : ∀ b ∈ fp, b ∉ c.fp := by
        intro b hb e
        rcases hfp b hb with q | q
        · exact hIL (q ▸ e)
        · exact q (G.none_of_le l' (w'.fpk b e).2)
      have st₃ : St (i + 1) h₃ := Wk.frame _ _ _ st₂ fun b hb o e => (off b (hg₁L b hb)).trans e
      obtain ⟨oI, hoI⟩ := Option.ne_none_iff_exists'.mp (hlive _ _ st₃)
      have w₄ := w₃.into hoI hgI' hIk hIL hI₃
      refine (hbody _ _ g' _ _ w₄).mono (fun f s₃ hf => ?_) fun _ _ e => Eof.passes _ _ e
      obtain ⟨h₅, tk₅, g₅, m₅, σ₅, af, rfl, w₅, fl, hΦ⟩ := hf
      have hlk : Le k ((k.or g').add I oI) := (Le.or_left k g').trans (Le.add (G.or_none hIk hgI'))
      have hlg : Le g' ((k.or g').add I oI) := (Le.or_right w'.kin w'.gin).trans (Le.add (G.or_none hIk hgI'))
      obtain ⟨w₆, l₆, l₇⟩ := w₅.out (k := k) (N := N) (g₁ := g') w.base hlk hlg (fun b hb => .inl hb) (fun b hb => ⟨(w.nN b hb).1, (w'.nN b hb).2⟩) w.cel
      have hI₅ : g₅ I = none := (w₅.nN I (.inr rfl)).2
      have hI₆ : (g₅.or g') I = none := G.or_none hI₅ hgI'
      have st₅ : St (i + 1) h₅ := Wk.frame _ _ _ st₃ fun b hb o e => by
        rcases hfp b hb with rfl | q
        · rw [hoI] at e; cases e; exact w₅.kin _ _ (G.add_self _ _ _)
        · obtain ⟨p, hp⟩ := Option.ne_none_iff_exists'.mp q
          have h1 := w₅.kin _ _ (hlg _ _ (l' _ _ hp))
          have h2 := w₃.gin _ _ (l' _ _ hp)
          rw [h2] at e; cases e; exact h1
      have hI₇ : ∀ x v, (x, v) ∈ σ₅ → v.free = true → m₅ x ≠ some (Value.ref I) := fun y u hm hf hx => by
        have := (w₅.free_ne hm hf hx).2.1
        rw [G.add_self] at this; cases this
      have inv : J (i + 1) σ₅ → ∃ n', n' < ds.length + 1 - i ∧ ∃ h' tk g' m' σ' i, ({ s with heap := h₅, toks := tk₅ } : Shared) = { s with heap := h', toks := tk } ∧ W c k N g' m' σ' h' ∧ Le g₁ g' ∧ St i h' ∧ J i σ' ∧ i ≤ ds.length ∧ n' = ds.length + 1 - i ∧ g' I = none ∧ (∀ x v, (x, v) ∈ σ' → v.free = true → m' x ≠ some (.ref I)) :=
        fun hJ' => ⟨ds.length + 1 - (i + 1), by omega, h₅, tk₅, g₅.or g', m₅, σ₅, i + 1, rfl, w₆, l'.trans l₆, st₅, hJ', by omega, rfl, hI₆, hI₇⟩
      cases fl with
      | next => exact inv hΦ
      | cont => exact inv hΦ
      | brk => exact ⟨h₅, tk₅, _, m₅, σ₅, .next, rfl, w₆, .next, hΦ⟩
      | ret hr => exact ⟨h₅, tk₅, _, m₅, σ₅, _, rfl, w₆, .ret (hr.mono l₇), hΦ⟩
    · have hie : i = ds.length := by omega
      subst hie
      refine Wk.done _ _ _ st' fun h₂ tk₂ hk₂ => ?_
      exact .nil ⟨h₂, tk₂, g', m', σ', .next, rfl, step hk₂, .next, done σ' hJ⟩
  · intro x v hm hf hx; exact (w.free_ne hm hf hx).1 hIn
end
end Mine
namespace Mine
section
variable {c : Cfg} {σ σ' : Sig} {E : ERes} {EE : Value → Shared → Prop} {Φ : AFlow → Sig → Prop} {rest : List Stmt}
theorem SX.while {test : Expr} {body : List Stmt} {pos : Pos} (_ : PassesOwn c.M c.A c.env (fun _ _ => False)) (J : Nat → Sig → Prop) (n : Nat) (h0 : J n σ)
    (turn : ∀ n σ₁, J n σ₁ → ∃ b σ₂, EXB c σ₁ test b σ₂ ∧ (b = true → SX c E σ₂ body (turnT c E rest Φ fun σ₃ => ∃ n', n' < n ∧ J n' σ₃)) ∧ (b = false → SX c E σ₂ rest Φ)) : SX c E σ (.While test body [] pos :: rest) Φ := by
  refine SX.stepG fun k N g m s w => wpG.while ?_
  refine codeG.while (fun n s' => ∃ h' tk g' m' σ', s' = { s with heap := h', toks := tk } ∧ W c k N g' m' σ' h' ∧ J n σ') ?_ n ⟨s.heap, s.toks, g, m, σ, rfl, w, h0⟩
  rintro n s' ⟨h', tk, g', m', σ', rfl, w', hJ⟩
  obtain ⟨b, σ₂, ht, h1, h2⟩ := turn n σ' hJ
  refine ht k N g' m' _ _ _ w' fun h₁ g₁ t₁ w₁ l₁ => ?_
  cases b with
  | true =>
    rw [if_pos rfl]
    refine (h1 rfl k N g₁ m' _ w₁).mono (fun f s₃ hf => ?_) fun _ _ e => Eof.passes _ _ e
    obtain ⟨h₅, tk₅, g₅, m₅, σ₅, af, rfl, w₅, fl, hΦ⟩ := hf
    cases fl with
    | next => obtain ⟨n', hn, hJ'⟩ := hΦ; exact ⟨n', hn, h₅, tk₅, g₅, m₅, σ₅, rfl, w₅, hJ'⟩
    | cont => obtain ⟨n', hn, hJ'⟩ := hΦ; exact ⟨n', hn, h₅, tk₅, g₅, m₅, σ₅, rfl, w₅, hJ'⟩
    | brk => exact ⟨h₅, tk₅, g₅, m₅, σ₅, .next, rfl, w₅, .next, hΦ⟩
    | ret hr => exact ⟨h₅, tk₅, g₅, m₅, σ₅, _, rfl, w₅, .ret hr, hΦ⟩
  | false =>
    rw [if_neg Bool.false_ne_true]
    exact .nil ⟨h₁, t₁, g₁, m', σ₂, .next, rfl, w₁, .next, h2 rfl⟩
/-- slices -/
noncomputable def cut {α : Type} (lo hi : Option Int) (ds : List α) : List α := (ds.drop (lo.elim 0 (clipAt ds.length))).take (hi.elim ds.length (clipAt ds.length) - lo.elim 0 (clipAt ds.length))
inductive EVo (c : Cfg) (σ : Sig) : Option Expr → Option Int → Prop where
  | none : EVo c σ none none
  | some {e : Expr} {i : Int} : EV c σ e (.int i) → EVo c σ (some e) (some i)
theorem EVo.run {e : Option Expr} {i : Option Int} (h : EVo c σ e i) (k : G) (N : Addr → Prop) (g : G) (m : Str → Option Value) (s : Shared) (Q : Value → Shared → Prop) (w : W c k N g m σ s.heap)
    (q : ∀ v h' g' tk, Keep s.heap h' → W c k N g' m σ h' → Le g g' → IsPart v i → Q v { s with heap := h', toks := tk }) : wpAny c.M c.A (evalPart e c.env) Q EE s := by
  cases h with
  | none => exact wpAny_pure (q .none s.heap g s.toks (Keep.refl _) w (Le.refl _) .none)
  | some he => exact he k N g m s Q EE w fun v h₁ g₁ t₁ k₁ w₁ l₁ r₁ => by cases r₁; exact q _ h₁ g₁ t₁ k₁ w₁ l₁ (.int _ _)
theorem Reps.cut {g : G} {vs : List Value} {ds : List D} (h : Reps g vs ds) (lo hi : Option Int) : Reps g (cut lo hi vs) (cut lo hi ds) := by
  unfold Mine.cut; rw [h.length]; exact (h.drop _).take _
theorem EV.slice {e : Expr} {lo hi : Option Expr} {i j : Option Int} {ds : List D} {p pos : Pos} (he : EV c σ e (.list ds)) (hl : EVo c σ lo i) (hh : EVo c σ hi j) (hn : ds.length ≤ 16777216) (ht : ∀ o r, letTemporaryGo e o r = pure ()) :
    EV c σ (.Subscript e (.Slice lo hi none p) pos) (.list (cut i j ds)) := by
  intro k N g m s Q E w q
  refine wpAny_Subscript_list_slice (he k N g m s _ _ w fun v h₁ g₁ t₁ k₁ w₁ l₁ r₁ => hl.run k N g₁ m _ _ w₁ fun vl h₂ g₂ t₂ k₂ w₂ l₂ p₂ => hh.run k N g₂ m _ _ w₂ fun vu h₃ g₃ t₃ k₃ w₃ l₃ p₃ => ?_) ht
  obtain ⟨a, us, rfl, hll, hr⟩ := (r₁.mono (l₂.trans l₃)).isList w₃.gin (s := { s with heap := h₃, toks := t₃ })
  refine ⟨a, us.toArray, i, j, rfl, hll, by rw [List.size_toArray, hr.length]; exact hn, p₂, p₃, ?_⟩
  dsimp only
  generalize hh₄ : h₃.push { cls := .type "slice", data := .fields #[vl, vu, .none] } = h₄
  have k₄ : Keep h₃ h₄ := hh₄ ▸ Keep.push _ _
  have hsz4 : h₄.objs.size = h₃.objs.size + 1 := by rw [← hh₄]; simp [Heap.push]
  have w₄ := w₃.keep k₄
  have e1 : slicePick us.toArray i j none = (Mine.cut i j us).toArray := by rw [slicePick_plain]; simp [Mine.cut]
  rw [e1, ← hsz4]
  have hsz := Heap.get?_none_of_le (h := h₄) (Nat.le_refl _)
  have ha : (h₄.push (listObj (Mine.cut i j us) 0)).get? h₄.objs.size = some (listObj (Mine.cut i j us) 0) := Heap.get?_push_size _ rfl
  obtain ⟨w₅, l₅⟩ := w₄.add (Keep.push h₄ (listObj (Mine.cut i j us) 0)) hsz ha
  exact q _ _ _ _ (k₁.trans (k₂.trans (k₃.trans (k₄.trans (Keep.push _ _))))) w₅ (l₁.trans (l₂.trans (l₃.trans l₅))) (.list (G.add_self _ _ _) rfl rfl ((hr.cut i j).mono l₅))
/-- a new object of data -/
theorem push_post {g : G} {s : Shared} {o : Obj} {d : D} {Q : Value → Shared → Prop} {tk : Nat} (hg : g.In s.heap) (hf : o.isFreed = false)
    (hr : Rep (g.add s.heap.objs.size o) (.ref s.heap.objs.size) d)
    (q : ∀ v h' g' tk, Keep s.heap h' → g'.In h' → Le g g' → (∀ b, s.heap.get? b ≠ none → g' b = g b) → Rep g' v d → Q v { s with heap := h', toks := tk }) : Q (.ref s.heap.objs.size) { s with heap := s.heap.push o, toks := tk } := by
  refine q _ _ (g.add s.heap.objs.size o) tk (Keep.push _ _) ((hg.keep (Keep.push _ _)).add (Heap.get?_push_size _ hf)) (Le.add hg.none_size) (fun b hb => G.add_ne fun e => hb ?_) hr
  rw [e]; exact Heap.get?_none_of_le (Nat.le_refl _)
/-- list + list -/
theorem OP2.add_list {ds es : List D} (hn : ds.length + es.length ≤ 16777216) : OP2 c (binaryOp .Add) (.list ds) (.list es) (.list (ds ++ es)) := by
  intro g s v₁ v₂ Q E hg r1 r2 q
  obtain ⟨a, vs, rfl, hl, hr⟩ := r1.isList hg (s := s)
  obtain ⟨b, ws, rfl, hl', hr'⟩ := r2.isList hg (s := s)
  obtain ⟨⟨cls, dd, data, sl⟩, ho, hc, n, hd⟩ := id hl
  obtain ⟨⟨cls2, dd2, data2, sl2⟩, ho2, hc2, n2, hd2⟩ := id hl'
  simp only at hc hd hc2 hd2
  subst hc hd hc2 hd2
  have e : vs.toArray ++ ws.toArray = (vs ++ ws).toArray := by simp
  refine concat_meets ⟨_, ho, rfl⟩ ⟨_, ho2, rfl⟩ noFill_list_add seq_list_add PySem.F.slot_list_add PySem.F.entry_list_add (PySem.F.args_list_add_2 _ _) (list_addW a b vs.toArray ws.toArray n n2 dd dd2 sl sl2 (by simp [hr.length, hr'.length]; exact hn)) ⟨ho, ho2, ?_⟩
  rw [e]
  have hle : Le g (g.add s.heap.objs.size (listObj (vs ++ ws) 0)) := Le.add hg.none_size
  exact push_post (o := listObj (vs ++ ws) 0) hg rfl (.list (G.add_self _ _ _) rfl rfl ((hr.append hr').mono hle)) q
/-- a def of the text: from its body to its contract -/
noncomputable def startSig (names : List Str) (params : List Str) (args : List D) : Sig := (params.zip (args.map AV.val)) ++ names.map fun x => (x, .un)
theorem lookup_of_nodup : ∀ {l : List (Str × Value)} {x : Str} {u : Value}, (x, u) ∈ l → (l.map (·.1)).Nodup → l.lookup x = some u
  | [], _, _, h, _ => nomatch h
  | p :: l, x, u, hm, hnd => by
    rw [List.map_cons, List.nodup_cons] at hnd
    rw [List.lookup_cons]
    rcases List.mem_cons.mp hm with rfl | hm
    · simp
    · have : (x == p.1) = false := by
        rw [beq_eq_false_iff_ne]; intro e; exact hnd.1 (e ▸ List.mem_map_of_mem (f := (·.1)) hm)
      rw [this]; exact lookup_of_nodup hm hnd.2
theorem startSig_keys {names params : List Str} {args : List D} (h : params.length = args.length) : (startSig names params args).map (·.1) = params ++ names := by
  simp only [startSig, List.map_append, List.map_map, Function.comp_def, List.map_id']
  rw [List.map_fst_zip (by simp [h])]
theorem startSig_free {names params : List Str} {args : List D} {x : Str} {v : AV} (h : (x, v) ∈ startSig names params args) : v.free = false := by
  rcases List.mem_append.mp h with hm | hm
  · obtain ⟨d, _, rfl⟩ := List.mem_map.mp (List.of_mem_zip hm).2; rfl
  · obtain ⟨y, _, e⟩ := List.mem_map.mp hm; cases e; rfl
theorem startSig_holds {k g : G} {fp : List Addr} {m : Str → Option Value} {h : Heap} {names params : List Str} {args : List D} {vs : List Value} (hr : Reps g vs args) (hm : ∀ x u, (x, u) ∈ params.zip vs → m x = some u) :
    ∀ x v, (x, v) ∈ startSig names params args → Holds k g fp m h x v := by
  intro x v hx
  rcases List.mem_append.mp hx with hx | hx
  · obtain ⟨i, hi⟩ := List.getElem?_of_mem hx
    rw [List.getElem?_zip_eq_some] at hi
    obtain ⟨hx, hv⟩ := hi
    rw [List.getElem?_map, Option.map_eq_some_iff] at hv
    obtain ⟨d, hd', rfl⟩ := hv
    obtain ⟨u, hu', hru⟩ := hr.get hd'
    exact ⟨u, hm x u (List.mem_of_getElem? (i := i) (by rw [List.getElem?_zip_eq_some]; exact ⟨hx, hu'⟩)), hru⟩
  · obtain ⟨y, _, e⟩ := List.mem_map.mp hx
    cases e; trivial
theorem zip_lookup {params : List Str} {vs : List Value} (hn : params.Nodup) (hl : params.length = vs.length) {x : Str} {u : Value} (h : (x, u) ∈ params.zip vs) : (params.zip vs).reverse.lookup x = some u := by
  refine lookup_of_nodup (List.mem_reverse.mpr h) ?_
  rw [List.map_reverse, List.map_fst_zip (by rw [hl]; exact Nat.le_refl _)]
  exact (List.reverse_perm params).nodup_iff.mpr hn
theorem FN.of_body {prog : Program} {w : World} {h₁ : Heap} {mg mb : Str → Option Value} {f : Addr} {n : Nat} {args : List D} {r : D} {o : Obj} {fd : FuncData} {body : List Stmt} {params names : List Str}
    (hst : Stat h₁ mg mb) (ho : h₁.get? f = some o) (hdata : o.data = .func fd) (hcd : h₁.CodeRec fd.code fd.qualname) (hbody : fd.body = .stmts body)
    (hgl : fd.globals = mainGlobals) (hcl : fd.closure = []) (hbl : fd.builtins = builtinsNs)
    (hlen : params.length = args.length)
    (hbind : ∀ (s : Shared) (vs : List Value), vs.length = params.length → BindsTo s fd ⟨vs, []⟩ (params.zip vs))
    (hcell : ∀ x ∈ fd.scope.names, x.2 ≠ .cell) (hloc : ∀ x ∈ params ++ names, fd.scope.names.lookup x = some .local ∧ (x == ("__debug__" : Str)) = false) (hnod : (params ++ names).Nodup)
    (hco : fd.scope.isCoroutine = false) (hgen : fd.scope.isGenerator = false) (hk : fd.scope.kind = .function)
    (hsx : ∀ (c : Cfg), c.Ok → c.Is prog w h₁ mg → c.env.scope = fd.scope → c.A.depth + n < recursionLimit → c.A.units + 8 * n + 64 < cLine → SX c (fun _ _ => False) (startSig names params args) body (fun fl _ => fl = .ret r)) :
    FN prog w h₁ f (n + 1) args r := by
  intro A s g vs Q E hh hd hu hk₁ hg hr q
  refine wpAny_call (codeAny_call_def (fd := fd) (body := body) (binds := params.zip vs) (by omega) (hk₁ _ _ ho) hdata (hst.nolimit.keeps hk₁) (hcd.keeps hk₁) hbody (hbind s vs (by rw [hlen, hr.length])) hcell (fun x hx => (hloc _ (List.mem_append_left _ (List.of_mem_zip hx).1)).1) (fun h₀ hns hk₂ => ?_) hco hgen hk)
  generalize henv : callEnv fd s.heap.objs.size f = env
  have e1 : env.scope = fd.scope := by rw [← henv]; rfl
  have e2 : env.locals = s.heap.objs.size := by rw [← henv]; rfl
  have e3 : env.globals = mainGlobals := by rw [← henv]; exact hgl
  have e4 : env.builtins = builtinsNs := by rw [← henv]; exact hbl
  have e5 : env.cells = [] := by rw [← henv]; exact hcl
  have hL0 : s.heap.get? s.heap.objs.size = none := Heap.get?_none_of_le (Nat.le_refl _)
  have hLl : h₀.get? s.heap.objs.size ≠ none := by obtain ⟨o, _, _, e, _⟩ := hns; rw [e]; exact fun e => nomatch e
  have hkeys := startSig_keys (names := names) hlen
  have hw : W { prog := prog, w := w, A := A.deeper env, h₁ := h₁, mg := mg, mb := mb, env := env, fp := [s.heap.objs.size] } (fun b => s.heap.get? b) (fun b => s.heap.get? b ≠ none ∧ g b = none) g (fun x => (params.zip vs).reverse.lookup x) (startSig names params args) h₀ := by
    refine { base := fun b o e => hk₁ _ _ e, kin := fun b o e => hk₂ _ _ e, gin := fun b o e => hk₂ _ _ (hg _ _ e), fpk := fun p hp => ?_, fpl := fun p hp => ?_, nN := fun b hb => ⟨hb.1, hb.2⟩, fr := ⟨⟨_, e2 ▸ hns, fun _ _ => rfl⟩, fun x p _ h => ?_⟩, cel := fun x p h => ?_, Lfp := by show env.locals ∈ _; rw [e2]; exact .head _, nod := by rw [hkeys]; exact hnod, lcl := ?_, loc := startSig_holds hr fun x u hm => zip_lookup (List.nodup_append.mp hnod).1 (by rw [hlen, ← hr.length]) hm, sep := fun x u y v a hx _ hf => ?_ }
    · rw [List.mem_singleton.mp hp]; exact ⟨hL0, hg.none_size⟩
    · rw [List.mem_singleton.mp hp]; exact hLl
    · dsimp only at h; rw [e5] at h; cases h
    · dsimp only at h; rw [e5] at h; cases h
    · rw [hkeys]; intro x hx; refine ⟨.inl ?_, (hloc x hx).2⟩; dsimp only; unfold Env.kindOf; rw [e1]; exact (hloc x hx).1
    · rw [startSig_free hx] at hf; cases hf
  refine wpG.anyMono (hsx { prog := prog, w := w, A := A.deeper env, h₁ := h₁, mg := mg, mb := mb, env := env, fp := [s.heap.objs.size] } ⟨⟨hst, by dsimp only; rw [e1]; exact hk, e3, e4, hh, by show A.units + 3 + 64 < _; omega, by show A.depth + 1 < _; omega⟩, by dsimp only; rw [e2]; exact .head _, fun x p h => (by dsimp only at h; rw [e5] at h; cases h), fun x y p h => (by dsimp only at h; rw [e5] at h; cases h), fun x p h => (by dsimp only at h; rw [e5] at h; cases h)⟩ ⟨rfl, rfl, rfl, rfl⟩ e1 (by show A.depth + 1 + n < _; omega) (by show A.units + 3 + 8 * n + 64 < _; omega) (fun b => s.heap.get? b) (fun b => s.heap.get? b ≠ none ∧ g b = none) g _ { s with heap := h₀, toks := s.toks + (params.zip vs).length } hw) (fun fl s' hf => ?_) fun _ _ e => wpAny_mono e (fun _ _ ⟨_, _, _, q⟩ => q.elim) fun _ _ q => q.elim
  obtain ⟨h', tk, g', m', σ', af, rfl, w', hfl, rfl⟩ := hf
  cases hfl with
  | ret hv =>
    have hkeep : Keep s.heap h' := fun b o e => w'.kin b o e
    have hgi : g.In h' := hg.keep hkeep
    refine q _ h' (g.or g') tk hkeep (hgi.or w'.gin) (Le.or_left _ _) (fun b hb => ?_) (hv.mono (Le.or_right hgi w'.gin))
    cases e : g b with
    | some o => exact Le.or_left _ _ _ _ e
    | none => exact G.or_none e (w'.nN b ⟨hb, e⟩).2
end
end Mine
namespace Mine
section
variable {c : Cfg} {σ σ' σ₁ σ₂ : Sig} {E : ERes} {EE : Value → Shared → Prop} {Φ : AFlow → Sig → Prop} {rest : List Stmt}
noncomputable def KeepBut (a : Addr) (h h' : Heap) : Prop := ∀ b o, b ≠ a → h.get? b = some o → h'.get? b = some o
theorem next_item {prog : Program} {w : World} {A : Around} {s : Shared} {it l : Addr} {i : Nat} {items : Array Value} {x : Value} {Q : Value → Shared → Prop} (hit : s.heap.IsListIter it l i) (hl : s.heap.IsList l items) (hx : items[i]? = some x)
    (hQ : ∀ h', h'.IsListIter it l (i + 1) → Heap.SameBut it s.heap h' → Q x { s with heap := h' }) : wpAny (model prog w) A (call (.builtin "next") [.ref it]) Q EE s := by
  refine Calls.call_function_entry (by decide +kernel) (by decide +kernel) PySem.W.kdk_entry_next (PySem.W.kdk_args_next _) ?_
  unfold Builtin.«next»
  refine wpAny_bind (m := someArgs "next" 1 2 _) (wpAny_of_eq (a := [Value.ref it]) (by first | rfl | kernel_rfl!) ?_)
  dsimp only
  refine wpAny_bind (wpAny_specialOf (name := Str.ofString "__next__") hit.typeIs slot_listiter_next.lookup ?_)
  refine wpAny_ite_split (fun hab => absurd hab (by decide)) (fun _ => ?_)
  obtain ⟨o, ho, hc, hd⟩ := id hit
  obtain ⟨ol, hol, _, nl, hdl⟩ := hl
  refine wpAny_bind (wpAny_callSpecial?_slot (name := Str.ofString "__next__") hit.typeIs slot_listiter_next
    (wpAny_call_entry slot_listiter_next hit.typeIs entry_listiter_next ?_ (args_listiter_next _)))
  show wpAny _ _ (field (.ref it) 0 >>= _) _ _ s
  refine wpAny_bind (wpAny_field ho hd (x := .ref l) rfl ?_)
  show wpAny _ _ (if (Value.ref l == Value.none) = true then _ else _) _ _ s
  rw [if_neg (show ¬ ((Value.ref l == Value.none) = true) from Bool.false_ne_true)]
  show wpAny _ _ (field (.ref it) 1 >>= _) _ _ s
  refine wpAny_bind (wpAny_field ho hd (x := .int i 0) rfl ?_)
  show wpAny _ _ (seqItems? (.ref l) >>= _) _ _ s
  refine wpAny_bind (wpAny_seqItems hol hdl ?_)
  simp only [Int.toNat_natCast, hx]
  refine wpAny_bind (wpAny_setField ho hd (by simp) (wpAny_pure ⟨x, rfl, wpAny_pure ⟨x, rfl, hQ _ ?_ (Heap.SameBut.update ..)⟩⟩))
  exact ⟨_, Heap.get?_update_self _ ho (Obj.isFreed_of_fields (Obj.data_mapFields hd _)), (Obj.cls_mapFields ..).trans hc, by
    rw [Obj.data_mapFields hd]; simp [rawInt]⟩
/-- an own object is exchanged, and data grow -/
theorem W.exchG {k g g' : G} {N : Addr → Prop} {m : Str → Option Value} {h h' : Heap} {x : Str} {a : Addr} {v u : AV} (w : W c k N g m σ h) (hl : Loc σ x v) (hf : v.free = true) (hu : Upd σ x u σ') (hm : m x = some (.ref a)) (hka : k a = none) (hga : g a = none) (hL : a ∉ c.fp)
    (hs : KeepBut a h h') (hin : g'.In h') (hle : Le g g') (hsg : ∀ b, h.get? b ≠ none → g' b = g b) (hx : Holds k g' c.fp m h' x u) : W c k N g' m σ' h' := by
  have oth : ∀ y w', (y, w') ∈ σ → y ≠ x → Holds k g' c.fp m h' y w' := fun y w' hy hne => by
    have hv := (w.loc y w' hy).ext hle fun b _ _ h1 _ h3 _ => (hsg b h3).trans h1
    cases w' with
    | un => trivial
    | val d => exact hv
    | own ds =>
      obtain ⟨b, vs, n, h1, h2, h3, h4, h5, h6⟩ := hv
      have hab : b ≠ a := fun q => hne (w.sep y _ x _ a hy hl.mem rfl hf (q ▸ h1) hm)
      exact ⟨b, vs, n, h1, hs b _ hab h2, h3, h4, h5, h6⟩
    | it b ds =>
      obtain ⟨h1, h2, h3, h4, h5⟩ := hv
      have hab : b.1 ≠ a := fun q => hne (w.sep y _ x _ a hy hl.mem rfl hf (q ▸ h1) hm)
      exact ⟨h1, h2.at' fun o e => hs b.1 _ hab e, h3, h4, h5⟩
  have hne : ∀ p, h.get? p ≠ none → p ≠ a → h'.get? p ≠ none := fun p hp hpa => by
    obtain ⟨o, e⟩ := Option.ne_none_iff_exists'.mp hp
    rw [hs p o hpa e]; exact fun e => nomatch e
  refine { base := w.base, kin := fun b o e => hs b o (fun q => by rw [q, hka] at e; cases e) (w.kin b o e), gin := hin, fpk := fun p hp => ⟨(w.fpk p hp).1, (hsg p (w.fpl p hp)).trans (w.fpk p hp).2⟩, fpl := fun p hp => hne p (w.fpl p hp) fun e => hL (e ▸ hp), nN := fun b hb => ⟨(w.nN b hb).1, ?_⟩, fr := ⟨?_, fun y p h1 h2 => ?_⟩, cel := w.cel, Lfp := w.Lfp, nod := by rw [hu.keys]; exact w.nod, lcl := by rw [hu.keys]; exact w.lcl, loc := fun y b hy => ?_, sep := fun y a₁ z b p h1 h2 h3 h4 h5 h6 => ?_ }
  · rw [hsg]; exact (w.nN b hb).2
    cases q : k b with
    | none => exact absurd q (w.nN b hb).1
    | some p => rw [w.kin _ _ q]; exact fun e => nomatch e
  · obtain ⟨m₀, h1, h2⟩ := w.fr.ns
    exact ⟨m₀, h1.extBut (fun b o hb e => hs b o hb e) (fun e => hL (e ▸ w.Lfp)), h2⟩
  · obtain ⟨o, e1, e2⟩ := w.fr.cl y p h1 h2
    refine ⟨o, hs p o (fun q => ?_) e1, e2⟩
    subst q
    rcases w.cel y p h2 with q | q
    · exact hL q
    · exact q hka
  · rcases hu.mem w.nod hy with ⟨rfl, rfl⟩ | ⟨n1, m1⟩
    · exact hx
    · exact oth y b m1 n1
  · rcases hu.mem w.nod h1 with ⟨rfl, rfl⟩ | ⟨n1, m1⟩ <;> rcases hu.mem w.nod h2 with ⟨rfl, rfl⟩ | ⟨n2, m2⟩
    · rfl
    · exact w.sep _ _ _ _ p hl.mem m2 hf h4 h5 h6
    · exact w.sep _ _ _ _ p m1 hl.mem h3 hf h5 h6
    · exact w.sep _ _ _ _ p m1 m2 h3 h4 h5 h6
/-- next(x) -/
theorem EX.next (ok : c.Ev) {x : Str} {p p1 p2 : Pos} {a : ItA} {d : D} {ds : List D} (hx : GL c "next" none) (hl : Loc σ x (.it a (d :: ds))) (hu : Upd σ x (.it a ds) σ') : EX c σ (.Call (.Name "next" p) [.Name x p1] [] p2) d σ' := by
  intro k N g m s Q E w q
  refine wpAny_Call_NameR (W.builtin ok w hx (v := .builtin "next") (by decide +kernel) (by decide) ?_)
  obtain ⟨hm, hat, hka, hga, hfa⟩ := w.loc x _ hl.mem
  refine Calls.callWith_builtin rfl (Calls.evalArgs_plain (Calls.spliced_cons (wpAny_Name (w.load ok hl hm (Calls.spliced_nil ?_)) (w.nodebug hl))))
  obtain ⟨i, o, vs, n, hit, hgl, hc, hd, hi, hsz, hr⟩ := id hat
  obtain ⟨u, hu0, hru⟩ := hr.get (i := 0) (d := d) rfl
  have hx : vs.toArray[i]? = some u := by simpa using hu0
  refine next_item hit ⟨o, w.gin _ _ hgl, hc, n, hd⟩ hx fun h' hit' hs' => ?_
  have hkb : KeepBut a.1 s.heap h' := fun b o hb e => (hs'.2 b hb).trans e
  have hgin : g.In h' := fun b o e => hkb b o (fun q => by rw [q, hga] at e; cases e) (w.gin b o e)
  have hlt : i < vs.length := by
    have := List.getElem?_eq_some_iff.mp (by simpa using hx : vs[i]? = some u); exact this.1
  have hr' : Reps g (vs.drop (i + 1)) ds := by
    have := hr.drop 1
    simpa [List.drop_drop, Nat.add_comm] using this
  have hat' : ItAt g h' a ds := ⟨i + 1, o, vs, n, hit', hgl, hc, hd, hlt, hsz, hr'⟩
  exact q u h' g s.toks (w.exchG hl rfl hu hm hka hga hfa hkb hgin (Le.refl _) (fun _ _ => rfl) ⟨hm, hat', hka, hga, hfa⟩) (Le.refl _) hru
/-- what a def that takes an iterator first gives -/
noncomputable def PF (prog : Program) (w : World) (h₁ : Heap) (f : Addr) (n : Nat) (ds : List D) (args : List D) (r : D) (ds' : List D) : Prop :=
  ∀ (A : Around) (s : Shared) (g : G) (a : ItA) (ws : List Value) (Q E : Value → Shared → Prop), A.handled = none → A.depth + n < recursionLimit → A.units + 8 * n + 64 < cLine → Keep h₁ s.heap → h₁.get? a.1 = none → g.In s.heap → ItAt g s.heap a ds → g a.1 = none → Reps g ws args →
    (∀ v h' g' tk, KeepBut a.1 s.heap h' → g'.In h' → Le g g' → (∀ b, s.heap.get? b ≠ none → g' b = g b) → ItAt g' h' a ds' → Rep g' v r → Q v { s with heap := h', toks := tk }) → wpAny (model prog w) A (call (.ref f) (.ref a.1 :: ws)) Q E s
theorem EX.callP {prog : Program} {w : World} {h₁ : Heap} {mg : Str → Option Value} (ok : c.Ev) (is : c.Is prog w h₁ mg) {x y : Str} {p p1 pos : Pos} {es : List Expr} {as ds ds' : List D} {a : ItA} {f : Addr} {n : Nat} {r : D} (hx : GL c x (some (.ref f))) (hf : IsFn h₁ f) (hl : Loc σ y (.it a ds)) (hu : Upd σ y (.it a ds') σ') (hs : EVs c σ es as) (hF : PF prog w h₁ f n ds as r ds')
    (hdp : c.A.depth + n < recursionLimit) (hun : c.A.units + 8 * n + 64 < cLine) : EX c σ (.Call (.Name x p) (.Name y p1 :: es) [] pos) r σ' := by
  obtain ⟨rfl, rfl, rfl, rfl⟩ := is
  intro k N g m s Q E w q
  refine wpAny_Call_NameR (W.global ok w hx ?_)
  obtain ⟨o, fd, ho, hfd⟩ := hf
  obtain ⟨hm, hat, hka, hga, hfa⟩ := w.loc y _ hl.mem
  have hbt : backTo pos (starEach (.Name y p1 :: es) c.env) = (false, eval (.Name y p1) c.env) :: es.map fun e => (false, eval e c.env) := by
    have : backTo pos (starEach (.Name y p1 :: es) c.env) = (false, eval (.Name y p1) c.env) :: backTo pos (starEach es c.env) := rfl
    rw [this, hs.plain]
  refine Calls.callWith_function (o := o) (fd := fd) ?_
  rw [hbt]
  refine Calls.evalArgs_plain (Calls.spliced_cons (wpAny_Name (w.load ok hl hm (hs.splice k N g m s _ _ w fun vs h₂ g₂ t₂ k₂ w₂ l₂ r₂ => ⟨⟨w₂.keep₁ _ _ ho, hfd⟩, ?_⟩)) (w.nodebug hl)))
  obtain ⟨_, hat₂, _, hga₂, _⟩ := w₂.loc y _ hl.mem
  refine hF c.A _ g₂ a vs _ E ok.hh hdp hun w₂.keep₁ ?_ w₂.gin hat₂ hga₂ r₂ fun v h₃ g₃ t₃ k₃ i₃ l₃ s₃ it₃ r₃ => ?_
  · cases e : c.h₁.get? a.1 with
    | none => rfl
    | some o => rw [w.base _ _ e] at hka; cases hka
  · exact q v h₃ g₃ t₃ (w₂.exchG hl rfl hu hm hka hga₂ hfa k₃ i₃ l₃ s₃ ⟨hm, it₃, hka, (s₃ a.1 hat₂.live).trans hga₂, hfa⟩) (l₂.trans l₃) r₃
theorem PF.of_body {prog : Program} {w : World} {h₁ : Heap} {mg mb : Str → Option Value} {f : Addr} {n : Nat} {x₀ : Str} {ds ds' args args' : List D} {r : D} {o : Obj} {fd : FuncData} {body : List Stmt} {params names : List Str}
    (hst : Stat h₁ mg mb) (ho : h₁.get? f = some o) (hdata : o.data = .func fd) (hcd : h₁.CodeRec fd.code fd.qualname) (hbody : fd.body = .stmts body)
    (hgl : fd.globals = mainGlobals) (hcl : fd.closure = []) (hbl : fd.builtins = builtinsNs)
    (hlen : params.length = args'.length)
    (hbind : ∀ (s : Shared) (g : G) (v : Value) (ws : List Value), Keep h₁ s.heap → Reps g ws args → ∃ us, BindsTo s fd ⟨v :: ws, []⟩ ((x₀, v) :: params.zip us) ∧ Reps g us args')
    (hcell : ∀ x ∈ fd.scope.names, x.2 ≠ .cell) (hloc : ∀ x ∈ x₀ :: params ++ names, fd.scope.names.lookup x = some .local ∧ (x == ("__debug__" : Str)) = false) (hnod : (x₀ :: params ++ names).Nodup)
    (hco : fd.scope.isCoroutine = false) (hgen : fd.scope.isGenerator = false) (hk : fd.scope.kind = .function)
    (hsx : ∀ (c : Cfg) (a : ItA), c.Ok → c.Is prog w h₁ mg → c.env.scope = fd.scope → c.A.depth + n < recursionLimit → c.A.units + 8 * n + 64 < cLine → SX c (fun _ _ => False) ((x₀, .it a ds) :: startSig names params args') body (fun fl σ' => fl = .ret r ∧ Loc σ' x₀ (.it a ds'))) :
    PF prog w h₁ f (n + 1) ds args r ds' := by
  intro A s g a ws Q E hh hd hu hk₁ ha₁ hg hat hga hr q
  obtain ⟨us, hb, hr'⟩ := hbind s g (.ref a.1) ws hk₁ hr
  have hlu : params.length = us.length := by rw [hlen, hr'.length]
  refine wpAny_call (codeAny_call_def (fd := fd) (body := body) (binds := (x₀, .ref a.1) :: params.zip us) (by omega) (hk₁ _ _ ho) hdata (hst.nolimit.keeps hk₁) (hcd.keeps hk₁) hbody hb hcell (fun x hx => ?_) (fun h₀ hns hk₂ => ?_) hco hgen hk)
  · rcases List.mem_cons.mp hx with rfl | hx
    · exact (hloc _ (.head _)).1
    · exact (hloc _ (.tail _ (List.mem_append_left _ (List.of_mem_zip hx).1))).1
  generalize henv : callEnv fd s.heap.objs.size f = env
  have e1 : env.scope = fd.scope := by rw [← henv]; rfl
  have e2 : env.locals = s.heap.objs.size := by rw [← henv]; rfl
  have e3 : env.globals = mainGlobals := by rw [← henv]; exact hgl
  have e4 : env.builtins = builtinsNs := by rw [← henv]; exact hbl
  have e5 : env.cells = [] := by rw [← henv]; exact hcl
  have hL0 : s.heap.get? s.heap.objs.size = none := Heap.get?_none_of_le (Nat.le_refl _)
  have hLl : h₀.get? s.heap.objs.size ≠ none := by obtain ⟨o, _, _, e, _⟩ := hns; rw [e]; exact fun e => nomatch e
  have haL : a.1 ≠ s.heap.objs.size := fun e => by have := hat.live; rw [e] at this; exact this hL0
  have hkeys := startSig_keys (names := names) hlen
  have hnd : ((x₀, Value.ref a.1) :: params.zip us).map (·.1) = x₀ :: params := by
    rw [List.map_cons, List.map_fst_zip (by rw [hlu]; exact Nat.le_refl _)]
  have hnp : (x₀ :: params).Nodup := by
    have : (x₀ :: params) ++ names = x₀ :: params ++ names := rfl
    exact (List.nodup_append.mp (this ▸ hnod)).1
  have hlook : ∀ x u, (x, u) ∈ (x₀, Value.ref a.1) :: params.zip us → ((x₀, Value.ref a.1) :: params.zip us).reverse.lookup x = some u := fun x u hm => by
    refine lookup_of_nodup (List.mem_reverse.mpr hm) ?_
    rw [List.map_reverse, hnd]
    exact (List.reverse_perm _).nodup_iff.mpr hnp
  have hw : W { prog := prog, w := w, A := A.deeper env, h₁ := h₁, mg := mg, mb := mb, env := env, fp := [s.heap.objs.size] } (fun b => if b = a.1 then none else s.heap.get? b) (fun b => b ≠ a.1 ∧ s.heap.get? b ≠ none ∧ g b = none) g (fun x => ((x₀, Value.ref a.1) :: params.zip us).reverse.lookup x) ((x₀, .it a ds) :: startSig names params args') h₀ := by
    refine { base := fun b o e => ?_, kin := fun b o e => ?_, gin := fun b o e => hk₂ _ _ (hg _ _ e), fpk := fun p hp => ?_, fpl := fun p hp => ?_, nN := fun b hb => ⟨?_, hb.2.2⟩, fr := ⟨⟨_, e2 ▸ hns, fun _ _ => rfl⟩, fun x p _ h => ?_⟩, cel := fun x p h => ?_, Lfp := by show env.locals ∈ _; rw [e2]; exact .head _, nod := by rw [List.map_cons, hkeys]; exact hnod, lcl := ?_, loc := fun x v hx => ?_, sep := fun x u y v b hx hy hf hf' => ?_ }
    · rw [if_neg (fun q => by rw [q, ha₁] at e; cases e)]; exact hk₁ _ _ e
    · dsimp only at e
      by_cases hb : b = a.1
      · rw [if_pos hb] at e; cases e
      · rw [if_neg hb] at e; exact hk₂ _ _ e
    · rw [List.mem_singleton.mp hp]; exact ⟨by rw [if_neg (Ne.symm haL)]; exact hL0, hg.none_size⟩
    · rw [List.mem_singleton.mp hp]; exact hLl
    · rw [if_neg hb.1]; exact hb.2.1
    · dsimp only at h; rw [e5] at h; cases h
    · dsimp only at h; rw [e5] at h; cases h
    · rw [List.map_cons, hkeys]; intro x hx; refine ⟨.inl ?_, (hloc x hx).2⟩; dsimp only; unfold Env.kindOf; rw [e1]; exact (hloc x hx).1
    · rcases List.mem_cons.mp hx with e | hx
      · cases e
        exact ⟨hlook _ _ (.head _), hat.at' fun o e => hk₂ _ _ e, if_pos rfl, hga, fun hm => haL (List.mem_singleton.mp hm)⟩
      · exact startSig_holds hr' (fun x u hm => hlook x u (.tail _ hm)) x v hx
    · rcases List.mem_cons.mp hx with e | hx
      · rcases List.mem_cons.mp hy with e' | hy
        · cases e; cases e'; exact fun _ _ => rfl
        · rw [startSig_free hy] at hf'; cases hf'
      · rw [startSig_free hx] at hf; cases hf
  refine wpG.anyMono (hsx { prog := prog, w := w, A := A.deeper env, h₁ := h₁, mg := mg, mb := mb, env := env, fp := [s.heap.objs.size] } a ⟨⟨hst, by dsimp only; rw [e1]; exact hk, e3, e4, hh, by show A.units + 3 + 64 < _; omega, by show A.depth + 1 < _; omega⟩, by dsimp only; rw [e2]; exact .head _, fun x p h => (by dsimp only at h; rw [e5] at h; cases h), fun x y p h => (by dsimp only at h; rw [e5] at h; cases h), fun x p h => (by dsimp only at h; rw [e5] at h; cases h)⟩ ⟨rfl, rfl, rfl, rfl⟩ e1 (by show A.depth + 1 + n < _; omega) (by show A.units + 3 + 8 * n + 64 < _; omega) _ _ g _ { s with heap := h₀, toks := s.toks + ((x₀, Value.ref a.1) :: params.zip us).length } hw) (fun fl s' hf => ?_) fun _ _ e => wpAny_mono e (fun _ _ ⟨_, _, _, q⟩ => q.elim) fun _ _ q => q.elim
  obtain ⟨h', tk, g', m', σ', af, rfl, w', hfl, rfl, hl'⟩ := hf
  cases hfl with
  | ret hv =>
    have hkeep : KeepBut a.1 s.heap h' := fun b o hb e => w'.kin b o (by rw [if_neg hb]; exact e)
    have hgi : g.In h' := fun b o e => hkeep b o (fun q => by rw [q, hga] at e; cases e) (hg b o e)
    obtain ⟨_, hat', _, hga', _⟩ := w'.loc _ _ hl'.mem
    refine q _ h' (g.or g') tk hkeep (hgi.or w'.gin) (Le.or_left _ _) (fun b hb => ?_) (hat'.mono (Le.or_right hgi w'.gin)) (hv.mono (Le.or_right hgi w'.gin))
    cases e : g b with
    | some o => exact Le.or_left _ _ _ _ e
    | none =>
      refine G.or_none e ?_
      by_cases hba : b = a.1
      · rw [hba]; exact hga'
      · exact (w'.nN b ⟨hba, hb, e⟩).2
end
end Mine
namespace Mine
section
variable {c : Cfg} {σ σ' σ₁ σ₂ : Sig} {E : ERes} {EE : Value → Shared → Prop} {Φ : AFlow → Sig → Prop} {rest : List Stmt}
/-- statements over moving expressions -/
theorem SX.assignX (ok : c.Ok) {x : Str} {e : Expr} {p p' : Pos} {d : D} (he : EX c σ e d σ₁) (hu : Upd σ₁ x (.val d) σ') (hs : swapsWith e (some (.Name x p')) p.line c.env = pure false) (k : SX c E σ' rest Φ) : SX c E σ (.Assign [.Name x p'] e p :: rest) Φ := by
  refine SX.step fun kk N g m s w => wpAny_Assign_Name (he kk N g m s _ _ w fun v h₁ g₁ t₁ w₁ l₁ r₁ => ?_) hs
  refine W.put ok w₁ r₁ hu fun h' tk w' => ?_
  exact ⟨h', tk, g₁, _, σ', .next, rfl, w', .next, k⟩
theorem SX.iteX {t : Expr} {b : Bool} {body orelse : List Stmt} {p : Pos} (ht : EXB c σ t b σ₁) (h1 : b = true → SX c E σ₁ body (seqT c E rest Φ)) (h2 : b = false → SX c E σ₁ orelse (seqT c E rest Φ)) : SX c E σ (.If t body orelse p :: rest) Φ := by
  refine SX.stepG fun kk N g m s w => wpG.ite (ht kk N g m s _ _ w fun h₁ g₁ t₁ w₁ l₁ => ?_)
  cases b with
  | true => rw [if_pos rfl]; exact (h1 rfl kk N g₁ m _ w₁).mono (fun _ _ q => q.trans) fun _ _ e => e
  | false => rw [if_neg Bool.false_ne_true]; exact (h2 rfl kk N g₁ m _ w₁).mono (fun _ _ q => q.trans) fun _ _ e => e
/-- x, y = e -/
theorem SX.unpack2X (ok : c.Ok) {x y : Str} {e : Expr} {p p1 p2 p3 : Pos} {kk : Nat} {d₁ d₂ : D} (he : EX c σ e (.tup [d₁, d₂]) σ₁) (hu : Upd σ₁ x (.val d₁) σ₂) (hu' : Upd σ₂ y (.val d₂) σ')
    (hs : swapsWithSole [.Tuple [.Name x p1, .Name y p2] kk p3] e p.line c.env = pure false) (hw : swappedStores [.Tuple [.Name x p1, .Name y p2] kk p3] e c.env = pure none)
    (k : SX c E σ' rest Φ) : SX c E σ (.Assign [.Tuple [.Name x p1, .Name y p2] kk p3] e p :: rest) Φ := by
  refine SX.step fun k0 N g m s w => Assign_Tuple (he k0 N g m s _ _ w fun v h₁ g₁ t₁ w₁ l₁ r₁ => ?_) hs hw
  obtain ⟨a, vs, rfl, ht, hr⟩ := r₁.isTup w₁.gin (s := { s with heap := h₁, toks := t₁ })
  cases hr with
  | cons r₁ hr => cases hr with
    | cons r₂ hr =>
      cases hr
      refine assign_Tuple_tuple ok.hh ht rfl rfl fun h₂ hb₂ => ?_
      have k₂ : Keep h₁ h₂ := Keep.extBut hb₂
      have w₂ := w₁.keep k₂
      refine assignInOrder_cons (assign_Name (W.put ok w₂ r₁ hu fun h₃ t₃ w₃ => ?_))
      refine assignInOrder_cons (assign_Name (W.put ok w₃ r₂ hu' fun h₄ t₄ w₄ => ?_))
      exact assignInOrder_nil ⟨h₄, t₄, g₁, _, σ', .next, rfl, w₄, .next, k⟩
/-- the last item of an own list -/
theorem popped {vs : List Value} {n : Nat} {v : Value} : ((listObj (vs ++ [v]) n).mapSeq fun xs => xs.eraseIdxIfInBounds ((vs ++ [v]).toArray.size - 1)) = listObj vs (n + 1) ∨ ∃ n', ((listObj (vs ++ [v]) n).mapSeq fun xs => xs.eraseIdxIfInBounds ((vs ++ [v]).toArray.size - 1)) = listObj vs n' := by
  right
  have e : (vs ++ [v]).toArray.eraseIdxIfInBounds ((vs ++ [v]).toArray.size - 1) = vs.toArray := by
    simp [List.eraseIdx_append_of_length_le]
  exact ⟨_, by unfold listObj Obj.mapSeq; dsimp only; rw [e]⟩
theorem Reps.snoc {g : G} : ∀ {vs : List Value} {ds : List D} {d : D}, Reps g vs (ds ++ [d]) → ∃ us v, vs = us ++ [v] ∧ Reps g us ds ∧ Rep g v d
  | _, [], d, .cons h1 h2 => by cases h2; exact ⟨[], _, rfl, .nil, h1⟩
  | _, d' :: ds, d, .cons h1 h2 => by
    obtain ⟨us, v, rfl, h3, h4⟩ := Reps.snoc h2
    exact ⟨_ :: us, v, rfl, .cons h1 h3, h4⟩
theorem EX.pop (ok : c.Ev) {x : Str} {p1 p2 p3 : Pos} {ds : List D} {d : D} (hl : Loc σ x (.own (ds ++ [d]))) (hu : Upd σ x (.own ds) σ') (hn : ds.length < 16777216)
    (hline : (p2.endLine == p3.line) = true) : EX c σ (.Call (.Attribute (.Name x p1) "pop" p2) [] [] p3) d σ' := by
  intro k N g m s Q E w q
  obtain ⟨a, vs, n, hm, ho, hr, hka, hga, hL⟩ := w.loc x _ hl.mem
  obtain ⟨us, v, rfl, hr1, hr2⟩ := hr.snoc
  refine wpAny_Call_method_lateS rfl rfl hline (wpAny_Name (w.load ok hl hm ⟨"list", "list.pop", PySem.F.plainAttrs_list, PySem.F.slot_list_pop, PySem.F.type_list_pop, ⟨_, ho, rfl⟩, fun b e => ?_, ?_⟩) (w.nodebug hl))
  · cases e; exact ⟨_, ho, rfl⟩
  · refine Calls.callWith_builtin rfl (wpAny_pure ?_)
    refine call_meets PySem.F.slot_list_pop ⟨_, ho, rfl⟩ PySem.F.entry_list_pop (PySem.F.args_list_pop_1 _) (PySem.MeetsSeq.list_pop_last a (us ++ [v]).toArray n v (by simp) (by simp [sizeLine_eq, hr1.length]; omega)) ⟨ho, ?_⟩
    rcases popped (vs := us) (n := n) (v := v) with e | ⟨n', e⟩
    all_goals
      have hs : Heap.SameBut a s.heap (s.heap.update a (Obj.mapSeq fun xs => xs.eraseIdxIfInBounds ((us ++ [v]).toArray.size - 1))) := Heap.SameBut.update ..
      have ho' := Heap.get?_update_self (Obj.mapSeq fun xs => xs.eraseIdxIfInBounds ((us ++ [v]).toArray.size - 1)) ho (by rw [e]; rfl)
      rw [e] at ho'
      refine q v _ g s.toks (w.exch hl rfl hu hm hka hga hL (fun b o hb e => (hs.2 b hb).trans e) ⟨a, us, _, hm, ho', hr1, hka, hga, hL⟩) (Le.refl _) hr2
/-- opened.pop() == e -/
theorem EXB.cmpX {l r : Expr} {op : CmpOp} {pos : Pos} {d₁ d₂ : D} {b : Bool} (hl : EX c σ l d₁ σ₁) (hr : EV c σ₁ r d₂) (ho : OP2 c (compareOp op) d₁ d₂ (.bool b)) (hm : behindInMarks op r = false) : EXB c σ (.Compare l [op] [r] pos) b σ₁ := by
  intro k N g m s Q E w h
  refine wpAny_isTrue_Compare1 (hl k N g m s _ _ w fun v₁ h₁ g₁ t₁ w₁ l₁ r₁ => ?_) hm
  refine hr k N g₁ m _ _ _ w₁ fun v₂ h₂ g₂ t₂ k₂ w₂ l₂ r₂ => ?_
  refine ho g₂ _ v₁ v₂ _ _ w₂.gin (r₁.mono l₂) r₂ fun v h₃ g₃ t₃ k₃ i₃ l₃ s₃ r₃ => ?_
  refine TR.bool g₃ _ v _ E i₃ r₃ fun tk => ?_
  exact h h₃ g₃ tk (w₂.grow k₃ i₃ l₃ s₃) (l₁.trans (l₂.trans l₃))
theorem EXB.orX {e f : Expr} {pos : Pos} {b b' : Bool} (h : EXB c σ e b σ₁) (h' : b = false → EXB c σ₁ f b' σ') (h'' : b = true → σ₁ = σ') : EXB c σ (.BoolOp .Or [e, f] pos) (b || b') σ' := by
  intro k N g m s Q E w q
  refine isTrue_or (h k N g m s _ _ w fun h₁ g₁ t₁ w₁ l₁ => ?_)
  cases b with
  | true => rw [if_pos rfl]; exact q h₁ g₁ t₁ (h'' rfl ▸ w₁) l₁
  | false =>
    rw [if_neg Bool.false_ne_true]
    refine isTrue_or (h' rfl k N g₁ m _ _ _ w₁ fun h₂ g₂ t₂ w₂ l₂ => ?_)
    cases b' with
    | true => rw [if_pos rfl]; exact q h₂ g₂ t₂ w₂ (l₁.trans l₂)
    | false => rw [if_neg Bool.false_ne_true]; exact isTrue_or_nil (q h₂ g₂ t₂ w₂ (l₁.trans l₂))
/-- x.pop() as a statement -/
theorem SX.exprX (ok : c.Ok) {e : Expr} {d : D} {p : Pos} (he : EX c σ e d σ') (hd : d.Scalar) (hs : swapsWith e none p.line c.env = pure false) (k : SX c E σ' rest Φ) : SX c E σ (.Expr e p :: rest) Φ := by
  refine SX.step fun kk N g m s w => wpAny_Expr (he kk N g m s _ _ w fun v h₁ g₁ t₁ w₁ l₁ r₁ => ?_) (W.not_interactive ok.toEv) hs
  have fin : Fin c kk N (seqT c E rest Φ) s .next { s with heap := h₁, toks := t₁ } := ⟨h₁, t₁, g₁, m, σ', .next, rfl, w₁, .next, k⟩
  cases hd <;> cases r₁ <;> exact fin
end
end Mine
namespace Mine
theorem walksFrom {prog : Program} {w : World} {A : Around} (hh : A.handled = none) (I ax : Addr) (hne : ax ≠ I) (items : Array Value) (i₀ : Nat) (hi₀ : i₀ ≤ items.size) :
    Walks prog w A I [I, ax] [I] (items.size - i₀) (fun i v => items[i₀ + i]? = some v) (fun i h => h.IsListIter I ax (i₀ + i) ∧ h.IsList ax items) where
  sub := fun b hb => by simp at hb; simp [hb]
  frame := fun _ _ _ st hk => ⟨st.1.at fun o e => hk I (by simp) o e, st.2.at fun o e => hk ax (by simp) o e⟩
  item := fun i s Q E hi st hQ => by
    have hlt : i₀ + i < items.size := by omega
    refine wpAny_pyNext_list_item st.1 st.2 (x := items[i₀ + i]) (by simp [hlt]) fun h' hit hs => ?_
    exact hQ _ h' s.toks (by simp [hlt]) ⟨hit, st.2.extBut hs.extBut hne⟩ fun b o hb e => (hs.2 b (by simpa using hb)).trans e
  done := fun s Q E st hQ => by
    refine wpAny_pyNext_list_end hh st.1 st.2 (by simp; omega) fun h' hs => ?_
    exact hQ h' s.toks fun b o hb e => hs b o (by simpa using hb) e
  self := fun i s Q E st hq => wpAny_pyIter_listiter st.1 hq
theorem call_list_iter {prog : Program} {w : World} {A : Around} {E : Value → Shared → Prop} {s : Shared} {I ax : Addr} {items : Array Value} {i₀ : Nat} {Q : Value → Shared → Prop} (hh : A.handled = none) (hi₀ : i₀ ≤ items.size) (hit : s.heap.IsListIter I ax i₀) (hl : s.heap.IsList ax items) (hne : ax ≠ I) (hn : items.size ≤ 16777216)
    (hQ : ∀ h' tk acc' c', KeepBut I s.heap h' → h'.get? s.heap.objs.size = some (listObj acc' c') → acc' = items.toList.drop i₀ → Q (.ref s.heap.objs.size) { s with heap := h', toks := tk }) : wpAny (model prog w) A (call (.type "list") [.ref I]) Q E s := by
  refine callType_codes (Q₁ := fun obj s₁ => obj = .ref s.heap.objs.size ∧ s₁ = { s with heap := s.heap.push { cls := .type "list", data := .seq #[] } }) F.called_list (F.typeCall_list_1 _) F.entry_list_init
    (code_list_new _ ⟨rfl, rfl⟩) fun obj s₁ h₁ => ?_
  obtain ⟨rfl, rfl⟩ := h₁
  have hS : (s.heap.push { cls := .type "list", data := .seq #[] }).get? s.heap.objs.size = some { cls := .type "list", data := .seq #[] } := Heap.get?_push_size _ rfl
  have hIlt : I < s.heap.objs.size := by obtain ⟨o, ho, _⟩ := hit; exact Heap.lt_size ho
  have hAlt : ax < s.heap.objs.size := by obtain ⟨o, ho, _⟩ := hl; exact Heap.lt_size ho
  refine ⟨⟨_, hS, rfl⟩, F.args_list_init_2 _ _, ?_⟩
  generalize hSz : s.heap.objs.size = S at *
  generalize hh₁ : s.heap.push { cls := .type "list", data := .seq #[] } = h₁ at *
  have k₁ : Keep s.heap h₁ := hh₁ ▸ Keep.push _ _
  show wpAny _ _ (do let old ← Builtin.List.listItems (.ref S); Builtin.List.listUpdate (.ref S) (fun _ => #[]); letGo old.toList.reverse; Builtin.List.listExtendWith (.ref S) (.ref I) .none) _ _ _
  refine wpAny_bind ?_
  unfold Builtin.List.listItems
  refine wpAny_bind (wpAny_seqItems hS rfl (wpAny_pure ?_))
  show wpAny _ _ (updateSeq S (fun _ => #[]) >>= fun _ => letGo (#[] : Array Value).toList.reverse >>= fun _ => Builtin.List.listExtendWith (.ref S) (.ref I) .none) _ _ _
  refine wpAny_bind (wpAny_updateSeq hS rfl ?_)
  have hS₂ := Heap.get?_update_self (Obj.mapSeq (fun _ => (#[] : Array Value))) hS rfl
  have oth : ∀ b o, b ≠ S → h₁.get? b = some o → (h₁.update S (Obj.mapSeq (fun _ => (#[] : Array Value)))).get? b = some o :=
    fun b o hb e => (Heap.get?_update_other _ _ (Ne.symm hb)).trans e
  refine wpAny_bind (wpAny_letGo ?_)
  dsimp only
  generalize h₁.update S (Obj.mapSeq (fun _ => (#[] : Array Value))) = h₂ at *
  have hIS : I ≠ S := Nat.ne_of_lt hIlt
  have hAS : ax ≠ S := Nat.ne_of_lt hAlt
  have hit₂ : h₂.IsListIter I ax i₀ := hit.at fun o e => oth _ _ hIS (k₁ _ _ e)
  have hl₂ : h₂.IsList ax items := hl.at fun o e => oth _ _ hAS (k₁ _ _ e)
  unfold Builtin.List.listExtendWith
  have hty : ∀ tk, ({ s with heap := h₂, toks := tk } : Shared).TypeIs (.ref I) "list_iterator" := fun tk => hit₂.typeIs
  refine wpAny_bind (wpAny_typeOf (hty _) ?_)
  have h1 : Builtin.List.listSameRef (.ref S) (.ref I) = false := by simp [Builtin.List.listSameRef, Ne.symm hIS]
  rw [if_neg (by rw [h1]; decide)]
  have W := walksFrom (prog := prog) (w := w) (A := A.in1.in1) hh I ax hne items i₀ hi₀
  have st : h₂.IsListIter I ax (i₀ + 0) ∧ h₂.IsList ax items := ⟨hit₂, hl₂⟩
  refine wpAny_bind (W.self 0 _ _ _ st ?_)
  refine wpAny_bind (wpAny_holding ?_)
  unfold Builtin.List.listLengthHint
  refine wpAny_bind (wpAny_specialOf (hty _) F.nolen_li ?_)
  show wpAny _ _ (specialOf (Value.ref I) (Str.ofString "__length_hint__") >>= _) _ _ _
  refine wpAny_bind (wpAny_specialOf (hty _) F.hint_li ?_)
  (generalize hid : ("list_iterator.__length_hint__" : String) = id0; (fail_if_success (clear hid id0)); wp_delta; rw [show splitId id0 = some ("list_iterator", "__length_hint__") from by subst hid; decide +kernel]; subst hid)
  refine wpAny_bind (wpAny_isInstance (b := true) (hty _) (by rw [isSubtype_type]; kernel_rfl) ?_)
  refine wpAny_pure ?_
  rw [if_neg (by decide)]
  have hSf : S ∉ [I, ax] := by simp; exact ⟨Ne.symm hIS, Ne.symm hAS⟩
  refine wpAny_pure ⟨plainId_quiet F.plain_extend_loop _, codeAny_extend_loopS W.toS (by rw [sizeLine_eq]; omega) _ hSf _ (items.size - i₀) 0 _ _ _ rfl (Nat.zero_le _) st hS₂ (ItemsOf.nil _) fun s' acc' c' hm hS' hacc => ?_⟩
  rw [Moved.eq_with hm]
  refine ⟨rfl, hQ s'.heap s'.toks acc'.toList c' (fun b o hb e => hm.heap b o (fun hmem => ?_) (oth b o (fun q => ?_) (k₁ b o e))) ?_ ?_⟩
  · rcases List.mem_cons.mp hmem with e' | hmem
    · subst e'; rw [Heap.get?_none_of_le (Nat.le_of_eq hSz)] at e; cases e
    · exact hb (List.mem_singleton.mp hmem)
  · subst q; rw [Heap.get?_none_of_le (Nat.le_of_eq hSz)] at e; cases e
  · rw [hS']; simp [listObj]
  · refine List.ext_getElem? fun j => ?_
    by_cases hj : j < acc'.size
    · have e1 : acc'[j]? = some acc'[j] := by simp [hj]
      have e2 := hacc.2 j _ e1
      rw [List.getElem?_drop, Array.getElem?_toList, Array.getElem?_toList, e1, e2]
    · have := hacc.1
      rw [List.getElem?_eq_none (by simp; omega), List.getElem?_eq_none (by simp; omega)]
end Mine
namespace Mine
section
variable {c : Cfg} {σ σ' σ₁ σ₂ : Sig} {E : ERes} {EE : Value → Shared → Prop} {Φ : AFlow → Sig → Prop} {rest : List Stmt}
/-- list(x) of an iterator -/
theorem EX.listIt (ok : c.Ev) {x : Str} {p p1 p2 : Pos} {a : ItA} {ds : List D} (hx : GL c "list" none) (hl : Loc σ x (.it a ds)) (hu : Upd σ x .un σ') :
    EX c σ (.Call (.Name "list" p) [.Name x p1] [] p2) (.list ds) σ' := by
  intro k N g m s Q E w q
  refine wpAny_Call_NameR (W.builtin ok w hx (v := .type "list") (by decide +kernel) (by decide) ?_)
  obtain ⟨hm, hat, hka, hga, hfa⟩ := w.loc x _ hl.mem
  refine PySem.callWith_type rfl (Calls.evalArgs_plain (Calls.spliced_cons (wpAny_Name (w.load ok hl hm (Calls.spliced_nil ?_)) (w.nodebug hl))))
  obtain ⟨i, o, vs, n, hit, hgl, hc, hd, hi, hsz, hr⟩ := id hat
  have hne : a.2 ≠ a.1 := fun e => by rw [e, hga] at hgl; cases hgl
  have hll : s.heap.IsList a.2 vs.toArray := ⟨o, w.gin _ _ hgl, hc, n, hd⟩
  refine call_list_iter ok.hh (by simpa using hi) hit hll hne (by simpa using hsz) fun h' tk acc' c' hk hD hacc => ?_
  have hDn : s.heap.get? s.heap.objs.size = none := Heap.get?_none_of_le (Nat.le_refl _)
  have hgin : g.In h' := fun b o e => hk b o (fun q => by rw [q, hga] at e; cases e) (w.gin b o e)
  have hle : Le g (g.add s.heap.objs.size (listObj acc' c')) := Le.add w.gin.none_size
  have w' := w.exchG (u := .un) hl rfl hu hm hka hga hfa hk (hgin.add hD) hle (fun b hb => G.add_ne fun e => hb (e ▸ hDn)) trivial
  refine q _ h' _ tk w' hle (.list (G.add_self _ _ _) rfl rfl ?_)
  have hr' : Reps g acc' ds := by rw [hacc]; simpa using hr
  exact hr'.mono hle
/-- x = iter(e) -/
theorem SX.iter (ok : c.Ok) {x : Str} {e : Expr} {p p1 p2 p3 : Pos} {ds : List D} {σ' : ItA → Sig} (hx : GL c "iter" none) (he : EVs c σ [e] [.list ds]) (hn : ds.length ≤ 16777216) (hu : ∀ a, Upd σ x (.it a ds) (σ' a))
    (hs : swapsWith (.Call (.Name "iter" p) [e] [] p2) (some (.Name x p1)) p3.line c.env = pure false) (k : ∀ a, SX c E (σ' a) rest Φ) : SX c E σ (.Assign [.Name x p1] (.Call (.Name "iter" p) [e] [] p2) p3 :: rest) Φ := by
  refine SX.step fun kk N g m s w => wpAny_Assign_Name ?_ hs
  refine wpAny_Call_NameR (W.builtin ok.toEv w hx (v := .builtin "iter") (by decide +kernel) (by decide) ?_)
  refine Calls.callWith_builtin he.noStar (he.args kk N g m s _ w fun vs h₁ g₁ t₁ k₁ w₁ l₁ r₁ => ?_)
  cases r₁ with
  | cons r₁ r₂ =>
    cases r₂
    cases r₁ with
    | @list a o vs n _ h1 h2 h3 h4 =>
      refine Calls.call_function_entry (by decide +kernel) (by decide +kernel) PySem.W.kdk_entry_iter (PySem.W.kdk_args_iter _) ?_
      unfold Builtin.«iter»
      refine wpAny_bind (m := someArgs "iter" 1 2 _) (wpAny_of_eq (a := [Value.ref a]) (by first | rfl | kernel_rfl!) ?_)
      dsimp only
      have hll : h₁.IsList a vs.toArray := ⟨o, w₁.gin _ _ h1, h2, n, h3⟩
      refine wpAny_bind (wpAny_pyIter_list hll (wpAny_pure ⟨_, rfl, ?_⟩))
      dsimp only
      have hsz := Heap.get?_none_of_le (h := h₁) (Nat.le_refl _)
      generalize hh₂ : h₁.push { cls := .type "list_iterator", data := .fields #[.ref a, .int 0 0] } = h₂
      have k₂ : Keep h₁ h₂ := hh₂ ▸ Keep.push _ _
      have w₂ := w₁.keep k₂
      have hit : h₂.IsListIter h₁.objs.size a 0 := ⟨_, hh₂ ▸ Heap.get?_push_size _ rfl, rfl, rfl⟩
      have hL : h₁.objs.size ∉ c.fp := fun hp => w₁.fpl _ hp hsz
      have hat : ItAt g₁ h₂ (h₁.objs.size, a) ds := ⟨0, o, vs, n, hit, h1, h2, h3, Nat.zero_le _, by rw [h4.length]; exact hn, by simpa using h4⟩
      refine W.store (v := .it (h₁.objs.size, a) ds) (σ' := σ' (h₁.objs.size, a)) ok w₂ (hu _) (fun h' off => ⟨if_pos rfl, hat.at' fun o e => (off _ hL).trans e, w₁.kin.none_size, w₁.gin.none_size, hL⟩) (fun _ y v b hy hf _ hm e => ?_) fun h' tk off w' => ⟨h', tk, g₁, _, _, .next, rfl, w', .next, k _⟩
      cases e
      exact (w₁.free_ne hy hf hm).1 hsz
/-- a def whose names are captured -/
theorem bindL_mem {kindOf : Str → Option NameKind} : ∀ {binds : List (Str × Value)} {m : Str → Option Value} {x : Str} {u : Value}, (binds.map (·.1)).Nodup → ((x, u) ∈ binds ∨ (x ∉ binds.map (·.1) ∧ m x = some u)) → kindOf x = some .local → bindL kindOf binds m x = some u
  | [], m, x, u, _, h, _ => by rcases h with h | h; cases h; exact h.2
  | (n, v) :: r, m, x, u, hn, h, hk => by
    rw [List.map_cons, List.nodup_cons] at hn
    unfold bindL
    refine bindL_mem hn.2 ?_ hk
    rcases h with h | ⟨h1, h2⟩
    · rcases List.mem_cons.mp h with e | h
      · cases e
        exact .inr ⟨hn.1, by rw [if_pos hk]; simp⟩
      · exact .inl h
    · rw [List.map_cons, List.mem_cons, not_or] at h1
      refine .inr ⟨h1.2, ?_⟩
      split
      · show (if x = n then some v else m x) = some u; rw [if_neg h1.1]; exact h2
      · exact h2
theorem bindC_mem {kindOf : Str → Option NameKind} : ∀ {binds : List (Str × Value)} {m : Str → Option Value} {x : Str} {u : Value}, (binds.map (·.1)).Nodup → ((x, u) ∈ binds ∨ (x ∉ binds.map (·.1) ∧ m x = some u)) → kindOf x ≠ some .local → bindC kindOf binds m x = some u
  | [], m, x, u, _, h, _ => by rcases h with h | h; cases h; exact h.2
  | (n, v) :: r, m, x, u, hn, h, hk => by
    rw [List.map_cons, List.nodup_cons] at hn
    unfold bindC
    refine bindC_mem hn.2 ?_ hk
    rcases h with h | ⟨h1, h2⟩
    · rcases List.mem_cons.mp h with e | h
      · cases e
        exact .inr ⟨hn.1, by rw [if_neg hk]; simp⟩
      · exact .inl h
    · rw [List.map_cons, List.mem_cons, not_or] at h1
      refine .inr ⟨h1.2, ?_⟩
      split
      · exact h2
      · show (if x = n then some v else m x) = some u; rw [if_neg h1.1]; exact h2
theorem cellsFrom_lookup : ∀ (names : List (Str × NameKind)) (n : Nat) (acc : List (Str × Addr)) (x : Str), names.lookup x = some .cell → (acc.lookup x).isSome = true ∨ True → ((cellsFrom n names acc).lookup x).isSome = true
  | [], _, _, _, h, _ => by cases h
  | (y, k) :: r, n, acc, x, h, _ => by
    have aux : ∀ (names : List (Str × NameKind)) (n : Nat) (acc : List (Str × Addr)), (acc.lookup x).isSome = true → ((cellsFrom n names acc).lookup x).isSome = true := by
      intro names
      induction names with
      | nil => intro n acc h; exact h
      | cons p r ih =>
        intro n acc h
        obtain ⟨y, k⟩ := p
        unfold cellsFrom
        split
        · refine ih _ _ ?_
          rw [List.lookup_cons]
          cases x == y <;> simp [h]
        · exact ih _ _ h
    unfold cellsFrom
    rw [List.lookup_cons] at h
    cases hxy : x == y with
    | true =>
      rw [hxy] at h; cases h
      rw [if_pos (by decide)]
      exact aux _ _ _ (by rw [List.lookup_cons, hxy]; rfl)
    | false =>
      rw [hxy] at h
      split
      · exact cellsFrom_lookup r _ _ x h (.inr trivial)
      · exact cellsFrom_lookup r _ _ x h (.inr trivial)
theorem FN.of_bodyC {prog : Program} {w : World} {h₁ : Heap} {mg mb : Str → Option Value} {f : Addr} {n : Nat} {args : List D} {r : D} {o : Obj} {fd : FuncData} {body : List Stmt} {params names : List Str}
    (hst : Stat h₁ mg mb) (ho : h₁.get? f = some o) (hdata : o.data = .func fd) (hcd : h₁.CodeRec fd.code fd.qualname) (hbody : fd.body = .stmts body)
    (hgl : fd.globals = mainGlobals) (hcl : fd.closure = []) (hbl : fd.builtins = builtinsNs)
    (hlen : params.length = args.length)
    (hbind : ∀ (vs : List Value), vs.length = params.length → bindArgs fd ⟨vs, []⟩ = pure (params.zip vs))
    (hloc : ∀ x ∈ params ++ names, (fd.scope.names.lookup x = some .local ∨ fd.scope.names.lookup x = some .cell) ∧ (x == ("__debug__" : Str)) = false) (hnod : (params ++ names).Nodup)
    (hco : fd.scope.isCoroutine = false) (hgen : fd.scope.isGenerator = false) (hk : fd.scope.kind = .function)
    (hsx : ∀ (c : Cfg), c.Ok → c.Is prog w h₁ mg → c.env.scope = fd.scope → c.A.depth + n < recursionLimit → c.A.units + 8 * n + 64 < cLine → SX c (fun _ _ => False) (startSig names params args) body (fun fl _ => fl = .ret r)) :
    FN prog w h₁ f (n + 1) args r := by
  intro A s g vs Q E hh hd hu hk₁ hg hr q
  have hlv : params.length = vs.length := by rw [hlen, ← hr.length]
  refine wpAny_call (codeAny_call_cells (fd := fd) (body := body) (binds := params.zip vs) (by omega) (hk₁ _ _ ho) hdata (hst.nolimit.keeps hk₁) (hcd.keeps hk₁) hbody (hbind vs hlv.symm) hcl (fun x hx => ?_) (fun s₁ hin => ?_) hco hgen hk)
  · rcases (hloc _ (List.mem_append_left _ (List.of_mem_zip hx).1)).1 with h | h
    · exact .inl h
    · exact .inr ⟨h, cellsFrom_lookup _ _ _ _ h (.inr trivial)⟩
  generalize henv : callEnvC fd s.heap.objs.size f = env at hin
  have e1 : env.scope = fd.scope := by rw [← henv]; rfl
  have e2 : env.locals = s.heap.objs.size := by rw [← henv]; rfl
  have e3 : env.globals = mainGlobals := by rw [← henv]; exact hgl
  have e4 : env.builtins = builtinsNs := by rw [← henv]; exact hbl
  have e5 : env.cells = cellsFrom (s.heap.objs.size + 1) fd.scope.names [] := by rw [← henv]; rfl
  have hkeys := startSig_keys (names := names) hlen
  have hnp := (List.nodup_append.mp hnod).1
  have hzk : ((params.zip vs).map (·.1)).Nodup := by rw [List.map_fst_zip (by rw [hlv]; exact Nat.le_refl _)]; exact hnp
  obtain ⟨hic, hcell, hap, hab⟩ := hin
  obtain ⟨h₀, tk₀, rfl⟩ := hic.same
  have hns := hic.ns
  have hk₂ : Keep s.heap h₀ := hic.keep
  have hfresh : ∀ p, s.heap.objs.size ≤ p → s.heap.get? p = none := fun p hp => Heap.get?_none_of_le hp
  have hgf : ∀ p, s.heap.objs.size ≤ p → g p = none := fun p hp => by
    cases e : g p with
    | none => rfl
    | some o => have := hg _ _ e; rw [hfresh p hp] at this; cases this
  have hfp : ∀ p ∈ s.heap.objs.size :: (env.cells.map (·.1)).filterMap (fun x => env.cells.lookup x), s.heap.objs.size ≤ p ∧ h₀.get? p ≠ none := by
    intro p hp
    rcases List.mem_cons.mp hp with rfl | hp
    · refine ⟨Nat.le_refl _, ?_⟩
      obtain ⟨o, _, _, e, _⟩ := hns; rw [e2] at e; rw [e]; exact fun e => nomatch e
    · obtain ⟨x, _, hx⟩ := List.mem_filterMap.mp hp
      refine ⟨Nat.le_of_lt (e2 ▸ hab x p (mem_of_lookup hx)), ?_⟩
      obtain ⟨o, e, _⟩ := hcell x p hx
      rw [e]; exact fun e => nomatch e
  have hfull : ∀ x p, env.cells.lookup x = some p → p ∈ s.heap.objs.size :: (env.cells.map (·.1)).filterMap (fun x => env.cells.lookup x) := fun x p h =>
    .tail _ (List.mem_filterMap.mpr ⟨x, List.mem_map_of_mem (f := (·.1)) (mem_of_lookup h), h⟩)
  have hkind : ∀ x, env.kindOf x = fd.scope.names.lookup x := fun x => by unfold Env.kindOf; rw [e1]
  have hcells : ∀ x, fd.scope.names.lookup x = some .cell → ∃ p, env.cells.lookup x = some p := fun x h => by
    have := cellsFrom_lookup _ (s.heap.objs.size + 1) [] x h (.inr trivial)
    rw [← e5] at this
    exact Option.isSome_iff_exists.mp this
  have hw : W { prog := prog, w := w, A := A.deeper env, h₁ := h₁, mg := mg, mb := mb, env := env, fp := s.heap.objs.size :: (env.cells.map (·.1)).filterMap (fun x => env.cells.lookup x) } (fun b => s.heap.get? b) (fun b => s.heap.get? b ≠ none ∧ g b = none) g
      (fun x => if env.kindOf x = some .local then bindL env.kindOf (params.zip vs) (fun _ => none) x else bindC env.kindOf (params.zip vs) (fun _ => none) x) (startSig names params args) h₀ := by
    refine { base := fun b o e => hk₁ _ _ e, kin := fun b o e => hk₂ _ _ e, gin := fun b o e => hk₂ _ _ (hg _ _ e), fpk := fun p hp => ⟨hfresh p (hfp p hp).1, hgf p (hfp p hp).1⟩, fpl := fun p hp => (hfp p hp).2, nN := fun b hb => ⟨hb.1, hb.2⟩, fr := ⟨⟨_, hns, fun x hx => (if_pos hx).symm⟩, fun x p hx hp => ?_⟩, cel := fun x p h => .inl (hfull x p h), Lfp := by show env.locals ∈ _; rw [e2]; exact .head _, nod := by rw [hkeys]; exact hnod, lcl := ?_, loc := startSig_holds hr fun x u hm => ?_, sep := fun x u y v a hx _ hf => ?_ }
    · have hx' : env.kindOf x ≠ some .local := fun e => by rw [show env.kindOf x = _ from hx] at e; cases e
      rw [if_neg hx']; exact hcell x p hp
    · rw [hkeys]; intro x hx
      refine ⟨?_, (hloc x hx).2⟩
      show (env.kindOf x = _ ∨ (env.kindOf x = _ ∧ _)); rw [hkind]
      exact (hloc x hx).1.imp id fun h => ⟨h, hcells x h⟩
    · by_cases hl : env.kindOf x = some .local
      · rw [if_pos hl]; exact bindL_mem hzk (.inl hm) hl
      · rw [if_neg hl]; exact bindC_mem hzk (.inl hm) hl
    · rw [startSig_free hx] at hf; cases hf
  refine wpG.anyMono (hsx { prog := prog, w := w, A := A.deeper env, h₁ := h₁, mg := mg, mb := mb, env := env, fp := s.heap.objs.size :: (env.cells.map (·.1)).filterMap (fun x => env.cells.lookup x) } ⟨⟨hst, by dsimp only; rw [e1]; exact hk, e3, e4, hh, by show A.units + 3 + 64 < _; omega, by show A.depth + 1 < _; omega⟩, by dsimp only; rw [e2]; exact .head _, hfull, fun x y p h h' => name_of_addr hap (mem_of_lookup h) (mem_of_lookup h'), fun x p h => Nat.ne_of_gt (hab x p (mem_of_lookup h))⟩ ⟨rfl, rfl, rfl, rfl⟩ e1 (by show A.depth + 1 + n < _; omega) (by show A.units + 3 + 8 * n + 64 < _; omega) (fun b => s.heap.get? b) (fun b => s.heap.get? b ≠ none ∧ g b = none) g _ { s with heap := h₀, toks := tk₀ } hw) (fun fl s' hf => ?_) fun _ _ e => wpAny_mono e (fun _ _ ⟨_, _, _, q⟩ => q.elim) fun _ _ q => q.elim
  obtain ⟨h', tk, g', m', σ', af, rfl, w', hfl, rfl⟩ := hf
  cases hfl with
  | ret hv =>
    have hkeep : Keep s.heap h' := fun b o e => w'.kin b o e
    have hgi : g.In h' := hg.keep hkeep
    refine q _ h' (g.or g') tk hkeep (hgi.or w'.gin) (Le.or_left _ _) (fun b hb => ?_) (hv.mono (Le.or_right hgi w'.gin))
    cases e : g b with
    | some o => exact Le.or_left _ _ _ _ e
    | none => exact G.or_none e (w'.nN b ⟨hb, e⟩).2
end
end Mine
namespace Mine
noncomputable def freesOf (names : List (Str × NameKind)) : List Str := (names.filter (·.2 == .free)).map (·.1)
noncomputable def closOf (env : Env) (names : List (Str × NameKind)) : List (Str × Addr) := ((freesOf names).map fun n => (n, (env.cells.lookup n).getD 0)).reverse
theorem closure_forIn {env : Env} (f : Str × NameKind → List (Str × Addr) → Sem (ForInStep (List (Str × Addr))))
    (hf : ∀ n k cs, f (n, k) cs = if k == .free then (do let a ← cellOf env n; pure (.yield ((n, a) :: cs))) else pure (.yield cs)) :
    ∀ (names : List (Str × NameKind)) (acc : List (Str × Addr)), (∀ n ∈ freesOf names, (env.cells.lookup n).isSome = true) → (forIn names acc f : Sem _) = pure (closOf env names ++ acc)
  | [], acc, _ => by rw [List.forIn_nil]; rfl
  | (n, k) :: r, acc, h => by
    rw [List.forIn_cons, hf]
    cases hk : k == NameKind.free with
    | true =>
      have e1 : freesOf ((n, k) :: r) = n :: freesOf r := by simp [freesOf, List.filter_cons, hk]
      obtain ⟨a, ha⟩ := Option.isSome_iff_exists.mp (h n (by rw [e1]; exact .head _))
      have ih := closure_forIn f hf r ((n, a) :: acc) fun m hm => h m (by rw [e1]; exact .tail _ hm)
      have e2 : closOf env ((n, k) :: r) ++ acc = closOf env r ++ (n, a) :: acc := by simp [closOf, e1, ha]
      rw [e2, if_pos rfl]
      unfold cellOf; rw [ha]
      exact ih
    | false =>
      have e1 : freesOf ((n, k) :: r) = freesOf r := by simp [freesOf, List.filter_cons, hk]
      have ih := closure_forIn f hf r acc fun m hm => h m (by rw [e1]; exact hm)
      have e2 : closOf env ((n, k) :: r) = closOf env r := by simp [closOf, e1]
      rw [e2, if_neg Bool.false_ne_true]
      exact ih
theorem closureFor_frees {env : Env} {scope : Scope} (h : ∀ n ∈ freesOf scope.names, (env.cells.lookup n).isSome = true) : closureFor scope env = pure (closOf env scope.names) := by
  unfold closureFor
  dsimp only
  rw [closure_forIn (env := env) _ (fun n k cs => by dsimp only) scope.names [] h]
  simp
theorem closOf_lookup {env : Env} {names : List (Str × NameKind)} {y : Str} {p : Addr} (h : (closOf env names).lookup y = some p) (hs : ∀ n ∈ freesOf names, (env.cells.lookup n).isSome = true) : env.cells.lookup y = some p := by
  have hm := mem_of_lookup h
  simp only [closOf, List.mem_reverse, List.mem_map] at hm
  obtain ⟨n, hn, e⟩ := hm
  cases e
  obtain ⟨a, ha⟩ := Option.isSome_iff_exists.mp (hs y hn)
  rw [ha]; rfl
theorem closOf_free {env : Env} {names : List (Str × NameKind)} {y : Str} {p : Addr} (h : (closOf env names).lookup y = some p) : y ∈ freesOf names := by
  have hm := mem_of_lookup h
  simp only [closOf, List.mem_reverse, List.mem_map] at hm
  obtain ⟨n, hn, e⟩ := hm
  cases e
  exact hn
theorem lookup_map_pair {α : Type} {f : Str → α} : ∀ {l : List Str} {y : Str}, y ∈ l → (l.map fun n => (n, f n)).lookup y = some (f y)
  | n :: r, y, h => by
    rw [List.map_cons, List.lookup_cons]
    cases e : y == n with
    | true => rw [beq_iff_eq.mp e]
    | false =>
      rcases List.mem_cons.mp h with rfl | h
      · simp at e
      · exact lookup_map_pair h
theorem closOf_some {env : Env} {names : List (Str × NameKind)} {y : Str} (h : y ∈ freesOf names) : ∃ p, (closOf env names).lookup y = some p := by
  unfold closOf
  rw [← List.map_reverse]
  exact ⟨_, lookup_map_pair (List.mem_reverse.mpr h)⟩
theorem relabel_lookup {env : Env} : ∀ {names : List (Str × NameKind)} {x : Str} {k : NameKind}, names.lookup x = some k →
    (names.map fun (n, k) => if (k == NameKind.free && env.scope.kind == .function && env.kindOf n == some .cell) then (n, NameKind.cell) else (n, k)).lookup x = some (if (k == NameKind.free && env.scope.kind == .function && env.kindOf x == some .cell) then .cell else k)
  | [], _, _, h => by simp at h
  | (n, k') :: r, x, k, h => by
    have ih := @relabel_lookup env r x k
    show List.lookup x ((if (k' == NameKind.free && env.scope.kind == .function && env.kindOf n == some .cell) = true then (n, NameKind.cell) else (n, k')) :: _) = _
    cases hx : x == n with
    | true =>
      simp only [List.lookup_cons, hx] at h
      cases h
      have : x = n := beq_iff_eq.mp hx
      subst this
      by_cases hc : (k' == NameKind.free && env.scope.kind == .function && env.kindOf x == some .cell) = true
      · rw [if_pos hc, if_pos hc, List.lookup_cons, hx]
      · rw [if_neg hc, if_neg hc, List.lookup_cons, hx]
    | false =>
      simp only [List.lookup_cons, hx] at h
      by_cases hc : (k' == NameKind.free && env.scope.kind == .function && env.kindOf n == some .cell) = true
      · rw [if_pos hc, List.lookup_cons, hx]; exact ih h
      · rw [if_neg hc, List.lookup_cons, hx]; exact ih h
theorem walks_within {prog : Program} {w : World} {A : Around} {I : Addr} {fp wr : List Addr} {n : Nat} {P : Nat → Value → Prop} {St : Nat → Heap → Prop} (W : Walks prog w A I fp wr n P St) : Walks prog w A I fp wr n (fun i v => i < n ∧ P i v) St where
  sub := W.sub
  frame := W.frame
  item := fun i s Q E hi st hQ => W.item i s Q E hi st fun v h' tk hp => hQ v h' tk ⟨hi, hp⟩
  done := W.done
  self := W.self
noncomputable def D.ofV : Value → D
  | .int i _ => .int i
  | .str x _ => .str x
  | .bool b => .bool b
  | _ => .none
theorem Rep.ofV {g : G} {v : Value} {d : D} (h : Rep g v d) (hs : d.Scalar) : D.ofV v = d := by
  cases hs <;> cases h <;> rfl
theorem Paired.reps {g : G} {f : D → D} : ∀ {vs ys : List Value}, Paired (fun v y => Rep g y (f (D.ofV v))) vs ys → Reps g ys ((vs.map D.ofV).map f)
  | _, _, .nil => .nil
  | _, _, .cons h1 h2 => .cons h1 (Paired.reps h2)
section
variable {c : Cfg} {σ σ' σ₁ σ₂ : Sig} {E : ERes} {EE : Value → Shared → Prop} {Φ : AFlow → Sig → Prop} {rest : List Stmt}
/-- the frame of a comprehension -/
structure CompOf (c c' : Cfg) (scope : Scope) : Prop where
  ev : c'.Ev
  prog : c'.prog = c.prog
  w : c'.w = c.w
  h₁ : c'.h₁ = c.h₁
  mg : c'.mg = c.mg
  A : c'.A = c.A
  scope : c'.env.scope = relabel scope c.env
theorem comp_some {k g : G} {N : Addr → Prop} {m : Str → Option Value} {h : Heap} {scope : Scope} (w : W c k N g m σ h) (hfree : ∀ n ∈ freesOf scope.names, c.env.kindOf n = some .cell ∧ n ∈ σ.map (·.1)) : ∀ n ∈ freesOf scope.names, (c.env.cells.lookup n).isSome = true := fun n hn => by
  obtain ⟨h1, h2⟩ := hfree n hn
  rcases (w.lcl n h2).1 with h | ⟨_, p, h⟩
  · rw [h1] at h; cases h
  · rw [h]; rfl
theorem comp_quiet (ok : c.Ev) {elt iter : Expr} {x : Str} {px pos : Pos} {ifs : List Expr} {scope : Scope} {ds : List D} (cap : Sig) (p : D → Bool) (f : D → D)
    (hsz : ds.length ≤ 16777216) (hsc : ∀ d ∈ ds, d.Scalar) (hfs : ∀ d ∈ ds, (f d).Scalar)
    (hcell : ∀ y ∈ scope.names, y.2 ≠ .cell) (hkind : scope.kind = .function) (hnames : ∀ y ∈ scope.names, y.2 = .local → scope.names.lookup y.1 = some .local) (hx : scope.names.lookup x = some .local) (hxd : (x == ("__debug__" : Str)) = false)
    (hfree : ∀ n ∈ freesOf scope.names, c.env.kindOf n = some .cell ∧ n ∈ σ.map (·.1))
    (hcap : ∀ q ∈ cap, q ∈ σ ∧ q.2.free = false ∧ scope.names.lookup q.1 = some .free ∧ q.1 ∈ freesOf scope.names) (hnod : (x :: cap.map (·.1)).Nodup)
    (hifs : ifs = [] ∧ (∀ d ∈ ds, p d = true) ∨ ∃ t, ifs = [t] ∧ ∀ c' d, CompOf c c' scope → d ∈ ds → EVB c' ((x, .val d) :: cap) t (p d))
    (helt : ∀ c' d, CompOf c c' scope → d ∈ ds → p d = true → EV c' ((x, .val d) :: cap) elt (f d))
    {k g₁ : G} {N : Addr → Prop} {m : Str → Option Value} {s₁ : Shared} {I : Addr} {P : Nat → Value → Prop} (w₁ : W c k N g₁ m σ s₁.heap) (hIk : k I = none) (hgI : g₁ I = none) (hIL : I ∉ c.fp) (hP : ∀ i v d, P i v → ds[i]? = some d → Rep g₁ v d) :
    QuietOnC c.prog c.w c.A c.env scope (closOf c.env scope.names) x ifs elt [I] (fun i v => i < ds.length ∧ P i v) (fun v => p (D.ofV v)) (fun v y => Rep (fun _ => none) y (f (D.ofV v))) s₁ := by
  have hsome := comp_some w₁ hfree
  obtain ⟨h₁, gn₁, dr₁, tk₁, os₁⟩ := s₁
  dsimp only at w₁
  have mk : ∀ (C : Addr) (i : Nat) (v : Value) (s₃ : Shared) (m₃ : Str → Option Value) (d : D), h₁.objs.size ≤ C → s₃.heap.Ns C m₃ → m₃ x = some v → (∀ b o, b ∉ [I] → h₁.get? b = some o → s₃.heap.get? b = some o) → Rep g₁ v d →
      ∃ c' m', CompOf c c' scope ∧ c'.env = compEnvC scope (closOf c.env scope.names) C c.env ∧ W c' (fun b => if b = I then none else h₁.get? b) (fun _ => False) g₁ m' ((x, .val d) :: cap) s₃.heap := by
    intro C i v s₃ m₃ d hC hn hm hk hr
    have hCn : h₁.get? C = none := Heap.get?_none_of_le hC
    refine ⟨{ c with env := compEnvC scope (closOf c.env scope.names) C c.env, fp := [C] }, fun y => if (relabel scope c.env).names.lookup y = some .local then m₃ y else m y, ⟨⟨ok.st, ?_, ok.hg, ok.hb, ok.hh, ok.un, ok.dp⟩, rfl, rfl, rfl, rfl, rfl, rfl⟩, rfl, ?_⟩
    · exact hkind
    have hxl : (relabel scope c.env).names.lookup x = some .local := lookup_relabel_local hx
    have hcapk : ∀ q ∈ cap, (relabel scope c.env).names.lookup q.1 = some .cell := fun q hq => by
      obtain ⟨_, _, h3, h4⟩ := hcap q hq
      have : (relabel scope c.env).names.lookup q.1 = _ := relabel_lookup (env := c.env) h3
      rw [this, ok.hk, (hfree _ h4).1]; rfl
    refine { base := fun b o e => ?_, kin := fun b o e => ?_, gin := fun b o e => ?_, fpk := fun p hp => ?_, fpl := fun p hp => ?_, nN := fun b hb => hb.elim, fr := ⟨⟨m₃, hn, fun y hy => (if_pos hy).symm⟩, fun y p hy hp => ?_⟩, cel := fun y p hp => .inr ?_, Lfp := .head _, nod := hnod, lcl := fun y hy => ?_, loc := fun y v' hy => ?_, sep := fun y u z v' a hy hz hf => ?_ }
    · have e1 := w₁.base b o e
      rw [if_neg (fun q => by rw [q, hIk] at e1; cases e1)]; exact w₁.kin _ _ e1
    · dsimp only at e
      by_cases hb : b = I
      · rw [if_pos hb] at e; cases e
      · rw [if_neg hb] at e; exact hk b o (by simpa using hb) e
    · exact hk b o (fun q => by rw [List.mem_singleton.mp q, hgI] at e; cases e) (w₁.gin b o e)
    · rw [List.mem_singleton.mp hp]
      refine ⟨by rw [hCn]; exact ite_self _, ?_⟩
      cases e : g₁ C with
      | none => rfl
      | some o => rw [w₁.gin _ _ e] at hCn; cases hCn
    · rw [List.mem_singleton.mp hp]
      obtain ⟨o, _, _, e, _⟩ := hn; rw [e]; exact fun e => nomatch e
    · have hy' : (relabel scope c.env).names.lookup y = some .cell := hy
      rw [if_neg (by rw [hy']; decide)]
      have hp' := closOf_lookup hp hsome
      have hyf : y ∈ freesOf scope.names := by
        exact closOf_free hp
      obtain ⟨o, e1, e2⟩ := w₁.fr.cl y p (hfree y hyf).1 hp'
      refine ⟨o, hk p o (fun q => ?_) e1, e2⟩
      rw [List.mem_singleton.mp q] at hp'
      rcases w₁.cel y I hp' with h | h
      · exact hIL h
      · exact h hIk
    · have hp' := closOf_lookup hp hsome
      have hyf : y ∈ freesOf scope.names := by
        exact closOf_free hp
      obtain ⟨o, e1, e2⟩ := w₁.fr.cl y p (hfree y hyf).1 hp'
      have hpI : p ≠ I := fun q => by
        rw [q] at hp'
        rcases w₁.cel y I hp' with h | h
        · exact hIL h
        · exact h hIk
      rw [if_neg hpI, e1]; exact fun e => nomatch e
    · rcases List.mem_cons.mp hy with rfl | hy
      · exact ⟨.inl hxl, hxd⟩
      · obtain ⟨q, hq, rfl⟩ := List.mem_map.mp hy
        obtain ⟨h1, _, _, h4⟩ := hcap q hq
        exact ⟨.inr ⟨hcapk q hq, closOf_some h4⟩, (w₁.lcl _ (List.mem_map_of_mem (f := (·.1)) h1)).2⟩
    · rcases List.mem_cons.mp hy with e | hy
      · cases e
        exact ⟨v, by dsimp only; rw [if_pos hxl]; exact hm, hr⟩
      · obtain ⟨h1, h2, _, _⟩ := hcap _ hy
        have hv := w₁.loc y v' h1
        cases v' with
        | un => trivial
        | val d => obtain ⟨u, e1, e2⟩ := hv; exact ⟨u, by dsimp only; rw [if_neg (by rw [hcapk _ hy]; decide)]; exact e1, e2⟩
        | own _ => cases h2
        | it _ _ => cases h2
    · rcases List.mem_cons.mp hy with e | hy
      · cases e; cases hf
      · obtain ⟨_, h2, _, _⟩ := hcap _ hy; rw [h2] at hf; cases hf
  have hPlt : ∀ (i : Nat) (v : Value), i < ds.length ∧ P i v → ∃ d, d ∈ ds ∧ Rep g₁ v d ∧ D.ofV v = d := fun i v ⟨hlt, hPv⟩ => by
    have hd : ds[i]? = some ds[i] := by simp [hlt]
    have hr := hP i v _ hPv hd
    exact ⟨ds[i], List.getElem_mem hlt, hr, hr.ofV (hsc _ (List.getElem_mem hlt))⟩
  refine ⟨fun C i v s₃ m₃ E' hC hPv hn hm hk _ => ?_, fun C i v s₃ m₃ E' hC hPv hpv hn hm hk _ => ?_⟩
  · obtain ⟨d, hd, hr, hov⟩ := hPlt i v hPv
    obtain ⟨c', m', co, he, w'⟩ := mk C i v s₃ m₃ d hC hn hm hk hr
    rw [hov]
    rcases hifs with ⟨rfl, hp⟩ | ⟨t, rfl, ht⟩
    · exact wpAny_pure ⟨(hp d hd).symm, s₃.heap, s₃.toks, rfl, fun _ _ e => e⟩
    · have := ht c' d co hd _ _ _ _ s₃ (fun b s₄ => b = p d ∧ Keeps s₃ s₄) E' w' fun h' g' tk k' _ _ => ⟨rfl, h', tk, rfl, k'⟩
      rw [he, show c'.M = c.M by unfold Cfg.M; rw [co.prog, co.w], co.A] at this
      rw [List.forIn_cons, if_pos rfl]
      exact wpAny_bind (wpAny_bind (wpAny_mono this (fun b s₄ h => wpAny_pure (wpAny_pure h)) fun _ _ e => e))
  · obtain ⟨d, hd, hr, hov⟩ := hPlt i v hPv
    obtain ⟨c', m', co, he, w'⟩ := mk C i v s₃ m₃ d hC hn hm hk hr
    rw [hov] at hpv ⊢
    have := helt c' d co hd hpv _ _ _ _ s₃ (fun y s₄ => Rep (fun _ => none) y (f d) ∧ Keeps s₃ s₄) E' w' fun v h' g' tk k' _ _ r' => ⟨r'.any (hfs d hd), h', tk, rfl, k'⟩
    rw [he, show c'.M = c.M by unfold Cfg.M; rw [co.prog, co.w], co.A] at this
    exact this
theorem comp_reps {ds : List D} {vs ys : List Value} {p : D → Bool} {f : D → D} {g₁ : G} {P : Nat → Value → Prop} (hsc : ∀ d ∈ ds, d.Scalar) (hP : ∀ i v d, P i v → ds[i]? = some d → Rep g₁ v d) (hlenv : vs.length = ds.length) (hPv : ∀ j v, vs[j]? = some v → j < ds.length ∧ P j v)
    (hpair : Paired (fun v y => Rep (fun _ => none) y (f (D.ofV v))) (vs.filter fun v => p (D.ofV v)) ys) : Reps (fun _ => none) ys ((ds.filter p).map f) := by
  have hvs : vs.map D.ofV = ds := by
    refine List.ext_getElem? fun j => ?_
    by_cases hj : j < vs.length
    · have e1 : vs[j]? = some vs[j] := by simp [hj]
      have hd : ds[j]? = some (ds[j]'(by omega)) := by simp [show j < ds.length by omega]
      have hr := hP j _ _ (hPv j _ e1).2 hd
      rw [List.getElem?_map, e1, hd, Option.map_some, hr.ofV (hsc _ (List.getElem_mem (by omega)))]
    · rw [List.getElem?_eq_none (by simp; omega), List.getElem?_eq_none (by omega)]
  have hreps := Paired.reps hpair
  have e2 : (vs.filter fun v => p (D.ofV v)).map D.ofV = ds.filter p := by rw [← hvs, List.filter_map]; rfl
  rw [e2] at hreps
  exact hreps
/-- y = [.. for x in ..] -/
theorem SX.assignComp (ok : c.Ok) {elt iter : Expr} {x : Str} {px py pos spos : Pos} {y : Str} {ifs : List Expr} {scope : Scope} {ds : List D} (cap : Sig) (p : D → Bool) (f : D → D)
    (hi : IT c σ iter ds) (hsz : ds.length ≤ 16777216) (hsc : ∀ d ∈ ds, d.Scalar) (hfs : ∀ d ∈ ds, (f d).Scalar)
    (hcell : ∀ y ∈ scope.names, y.2 ≠ .cell) (hkind : scope.kind = .function) (hnames : ∀ y ∈ scope.names, y.2 = .local → scope.names.lookup y.1 = some .local) (hx : scope.names.lookup x = some .local) (hxd : (x == ("__debug__" : Str)) = false)
    (hfree : ∀ n ∈ freesOf scope.names, c.env.kindOf n = some .cell ∧ n ∈ σ.map (·.1))
    (hcap : ∀ q ∈ cap, q ∈ σ ∧ q.2.free = false ∧ scope.names.lookup q.1 = some .free ∧ q.1 ∈ freesOf scope.names) (hnod : (x :: cap.map (·.1)).Nodup)
    (hifs : ifs = [] ∧ (∀ d ∈ ds, p d = true) ∨ ∃ t, ifs = [t] ∧ ∀ c' d, CompOf c c' scope → d ∈ ds → EVB c' ((x, .val d) :: cap) t (p d))
    (helt : ∀ c' d, CompOf c c' scope → d ∈ ds → p d = true → EV c' ((x, .val d) :: cap) elt (f d))
    (hs : ∀ v, foldedSetIterable iter c.env v = pure v)
    (hsw : swapsWith (.ListComp elt [⟨.Name x px, iter, ifs, 0⟩] scope pos) (some (.Name y py)) spos.line c.env = pure true) (hyk : c.env.kindOf y = some .local)
    (hu : Upd σ y (.val (.list ((ds.filter p).map f))) σ') (cont : SX c E σ' rest Φ) : SX c E σ (.Assign [.Name y py] (.ListComp elt [⟨.Name x px, iter, ifs, 0⟩] scope pos) spos :: rest) Φ := by
  refine SX.step fun k N g m s w => ?_
  have hsome := comp_some w hfree
  refine wpAny_Assign_ListComp_free (fun v => p (D.ofV v)) (fun v y => Rep (fun _ => none) y (f (D.ofV v))) hsw (closureFor_frees hsome) hcell hkind hnames hx hyk (W.class_free ok.toEv) (hi k N g m s _ _ w fun I fp n P St h₁ g₁ t₁ k₁ w₁ l₁ Wk st₁ hI hIn hgI hfp hlen hP hlive => ?_) hs
  subst hlen
  have hIk : k I = none := by
    cases q : k I with
    | none => rfl
    | some o => rw [w.kin _ _ q] at hIn; cases hIn
  have hIL : I ∉ c.fp := fun e => w.fpl I e hIn
  obtain ⟨m₀, hm₀, hm₁⟩ := w₁.fr.ns
  refine ⟨I, fp, [I], ds.length, fun i v => i < ds.length ∧ P i v, St, m₀, rfl, walks_within Wk, by rw [sizeLine_eq]; exact hsz, st₁, ?_, fun hm => hIL (List.mem_singleton.mp hm ▸ w₁.Lfp), hm₀, comp_quiet (px := px) (iter := iter) (pos := pos) ok.toEv cap p f hsz hsc hfs hcell hkind hnames hx hxd hfree hcap hnod hifs helt (s₁ := { s with heap := h₁, toks := t₁ }) w₁ hIk hgI hIL hP, ?_⟩
  · intro b hb
    rcases hfp b hb with rfl | h
    · obtain ⟨o, e⟩ := Option.ne_none_iff_exists'.mp hI; exact Heap.lt_size e
    · obtain ⟨o, e⟩ := Option.ne_none_iff_exists'.mp h; exact Heap.lt_size (w₁.gin _ _ e)
  · intro D' h' tk ys vs hDn hlist hplain hlenv hPv hpair hns hk
    obtain ⟨n', ho⟩ := hplain
    have hreps := comp_reps hsc hP hlenv hPv hpair
    have hk' : ∀ b o, b ≠ c.env.locals → b ≠ I → h₁.get? b = some o → h'.get? b = some o := fun b o hb hb' e => hk b o hb (by simpa using hb') e
    have ho' : h'.get? D' = some (listObj ys.toList n') := by rw [ho]; simp [listObj]
    have hgD : g₁ D' = none := by
      cases e : g₁ D' with
      | none => rfl
      | some o => rw [w₁.gin _ _ e] at hDn; cases hDn
    have hle : Le g₁ (g₁.add D' (listObj ys.toList n')) := Le.add hgD
    have hrep : Rep (g₁.add D' (listObj ys.toList n')) (.ref D') (.list ((ds.filter p).map f)) := .list (G.add_self _ _ _) rfl rfl (hreps.mono (by intro _ _ e; cases e))
    have hLk : k c.env.locals = none := (w₁.fpk _ w₁.Lfp).1
    have hLg : g₁ c.env.locals = none := (w₁.fpk _ w₁.Lfp).2
    have gin' : g₁.In h' := fun b o e => hk' b o (fun q => by rw [q, hLg] at e; cases e) (fun q => by rw [q, hgI] at e; cases e) (w₁.gin b o e)
    have w₃ : W c k N (g₁.add D' (listObj ys.toList n')) (fun z => if z = y then some (.ref D') else m z) σ' h' := by
      refine { base := w₁.base, kin := fun b o e => hk' b o (fun q => by rw [q, hLk] at e; cases e) (fun q => by rw [q, hIk] at e; cases e) (w₁.kin b o e), gin := gin'.add ho', fpk := fun p hp => ⟨(w₁.fpk p hp).1, ?_⟩, fpl := fun p hp => ?_, nN := fun b hb => ⟨(w₁.nN b hb).1, ?_⟩, fr := ⟨⟨_, hns, fun z hz => ?_⟩, fun z p hz hp => ?_⟩, cel := w₁.cel, Lfp := w₁.Lfp, nod := by rw [hu.keys]; exact w₁.nod, lcl := by rw [hu.keys]; exact w₁.lcl, loc := fun z v hz => ?_, sep := fun z u z' v' a h1 h2 h3 h4 h5 h6 => ?_ }
      · rw [G.add_ne (fun (e : p = D') => w₁.fpl p hp (e ▸ hDn))]; exact (w₁.fpk p hp).2
      · by_cases hpL : p = c.env.locals
        · rw [hpL]; obtain ⟨o, _, _, e, _⟩ := hns; rw [e]; exact fun e => nomatch e
        · obtain ⟨o, e⟩ := Option.ne_none_iff_exists'.mp (w₁.fpl p hp)
          rw [hk' p o hpL (fun q => hIL (q ▸ hp)) e]; exact fun e => nomatch e
      · rw [G.add_ne]; exact (w₁.nN b hb).2
        intro e; subst e
        obtain ⟨o, e⟩ := Option.ne_none_iff_exists'.mp (w₁.nN b hb).1
        rw [w₁.kin _ _ e] at hDn; cases hDn
      · by_cases e : z = y <;> simp [e, hm₁ z hz]
      · have hne : z ≠ y := fun e => by rw [e, hyk] at hz; cases hz
        simp only [if_neg hne]
        obtain ⟨o, e1, e2⟩ := w₁.fr.cl z p hz hp
        refine ⟨o, hk' p o (ok.offL z p hp) (fun q => ?_) e1, e2⟩
        subst q
        rcases w₁.cel z p hp with h | h
        · exact hIL h
        · exact h hIk
      · rcases hu.mem w₁.nod hz with ⟨rfl, rfl⟩ | ⟨hne, hz'⟩
        · exact ⟨_, if_pos rfl, hrep⟩
        · have hv := (w₁.loc z v hz').ext hle fun b hb hf h1 _ _ _ => by
            rw [G.add_ne]; exact h1
            intro e; subst e
            exact (w₁.free_ne hz' hf hb).1 hDn
          cases v with
          | un => trivial
          | val d => obtain ⟨u, e1, e2⟩ := hv; exact ⟨u, (if_neg hne).trans e1, e2⟩
          | own ds => obtain ⟨a, vs, n, h1, h2, h3, h4, h5, h6⟩ := hv; exact ⟨a, vs, n, (if_neg hne).trans h1, hk' a _ (fun q => h6 (q ▸ w₁.Lfp)) (fun q => (w.free_ne hz' rfl (q ▸ h1)).1 hIn) h2, h3, h4, h5, h6⟩
          | it a ds => obtain ⟨h1, h2, h3, h4, h5⟩ := hv; exact ⟨(if_neg hne).trans h1, h2.at' fun o e => hk' a.1 _ (fun q => h5 (q ▸ w₁.Lfp)) (fun q => (w.free_ne hz' rfl (q ▸ h1)).1 hIn) e, h3, h4, h5⟩
      · rcases hu.mem w₁.nod h1 with ⟨rfl, rfl⟩ | ⟨n1, m1⟩
        · cases h3
        · rcases hu.mem w₁.nod h2 with ⟨rfl, rfl⟩ | ⟨n2, m2⟩
          · cases h4
          · rw [if_neg n1] at h5; rw [if_neg n2] at h6
            exact w₁.sep _ _ _ _ a m1 m2 h3 h4 h5 h6
    exact ⟨h', tk, _, _, σ', .next, rfl, w₃, .next, cont⟩
end
end Mine
namespace Mine
section
variable {c : Cfg} {σ σ' σ₁ σ₂ : Sig} {E : ERes} {EE : Value → Shared → Prop} {Φ : AFlow → Sig → Prop} {rest : List Stmt}
theorem OP2.floordiv_int {x y : Int} (hy : y ≠ 0) (hs : y.natAbs < 1073741824) : OP2 c (binaryOp .FloorDiv) (.int x) (.int y) (.int (x.fdiv y)) := .of fun s g v₁ v₂ Q E _ h1 h2 q => by
  cases h1; cases h2; exact PyProof.Rows.floordiv_int hy (q _ _ (.int _ _)) (.inl (PyProof.noPylong_small hs))
theorem mulOk {x : Str} {n : Int} (h0 : 0 ≤ n) (h1 : n ≤ 1000) (hx : x.length ≤ 1000) : MulOk x n := by
  refine ⟨by simp; omega, fun h2 _ => ?_, fun h2 _ => ?_⟩
  · have : (9223372036854775807 : Int) / 1000 ≤ (2 ^ 63 - 1) / n := by
      refine Int.le_ediv_of_mul_le (by omega) ?_
      have : (9223372036854775807 : Int) / 1000 * n ≤ 9223372036854775807 / 1000 * 1000 := Int.mul_le_mul_of_nonneg_left h1 (by decide)
      omega
    omega
  · unfold Builtin.Str.tooLong; rw [sizeLine_eq]
    have : x.length * n.toNat ≤ 1000 * 1000 := Nat.mul_le_mul hx (by omega)
    exact decide_eq_false (by omega)
theorem OP2.mul_str {x : Str} {n : Int} (h0 : 0 ≤ n) (h1 : n ≤ 1000) (hx : x.length ≤ 1000) : OP2 c (binaryOp .Mult) (.str x) (.int n) (.str (Txt.mul x n)) := .of fun s g v₁ v₂ Q E _ r1 r2 q => by
  cases r1; cases r2; exact SB.mul (mulOk h0 h1 hx) fun t' k => q _ k (.str _ t')
theorem Reps.ints {g : G} : ∀ {vs : List Value} {xs : List Int}, Reps g vs (xs.map .int) → IntsAre vs xs
  | _, [], .nil => .nil
  | _, x :: xs, .cons h1 h2 => by cases h1; exact .cons _ _ (Reps.ints h2)
theorem OP2.in_tup_ints {x : Int} {ys : List Int} : OP2 c (compareOp .In) (.int x) (.tup (ys.map .int)) (.bool (ys.any (· == x))) := .of fun s g v₁ v₂ Q E hg r1 r2 q => by
  cases r1
  obtain ⟨a, us, rfl, hl, hr⟩ := r2.isTup hg (s := s)
  exact in_tuple_ints hl (by simpa using hr.ints) (q _ s.toks (.bool _))
theorem EVB.chain {l r r' : Expr} {op op' : CmpOp} {pos : Pos} {d₁ d₂ d₃ : D} {b b' : Bool} (hl : EV c σ l d₁) (hr : EV c σ r d₂) (ho : OP2 c (compareOp op) d₁ d₂ (.bool b)) (hr' : b = true → EV c σ r' d₃) (ho' : OP2 c (compareOp op') d₂ d₃ (.bool b'))
    (hm : lastMarks [op, op'] [r, r'] = false) : EVB c σ (.Compare l [op, op'] [r, r'] pos) (b && b') := by
  intro k N g m s Q E w h
  refine isTrue_chain (hl k N g m s _ _ w fun v₁ h₁ g₁ t₁ k₁ w₁ l₁ r₁ => ?_) hm
  refine test_link (hr k N g₁ m _ _ _ w₁ fun v₂ h₂ g₂ t₂ k₂ w₂ l₂ r₂ => ?_)
  refine ho g₂ _ v₁ v₂ _ _ w₂.gin (r₁.mono l₂) r₂ fun v h₃ g₃ t₃ k₃ i₃ l₃ s₃ r₃ => ?_
  have w₃ := w₂.grow k₃ i₃ l₃ s₃
  refine TR.bool g₃ _ v _ E i₃ r₃ fun tk => ?_
  cases b with
  | false => rw [if_neg Bool.false_ne_true]; exact h h₃ g₃ tk (k₁.trans (k₂.trans k₃)) w₃ (l₁.trans (l₂.trans l₃))
  | true =>
    rw [if_pos rfl]
    refine test_last (hr' rfl k N g₃ m _ _ _ w₃ fun v₄ h₄ g₄ t₄ k₄ w₄ l₄ r₄ => ?_)
    refine ho' g₄ _ v₂ v₄ _ _ w₄.gin ((r₂.mono l₃).mono l₄) r₄ fun v₅ h₅ g₅ t₅ k₅ i₅ l₅ s₅ r₅ => ?_
    refine TR.bool g₅ _ v₅ _ E i₅ r₅ fun tk => ?_
    exact h h₅ g₅ tk (k₁.trans (k₂.trans (k₃.trans (k₄.trans k₅)))) (w₄.grow k₅ i₅ l₅ s₅) (l₁.trans (l₂.trans (l₃.trans (l₄.trans l₅))))
/-- str(e) -/
noncomputable def dec (i : Int) : Str := Str.ofString (toString i)
theorem EV.str_int (ok : c.Ev) {p pos : Pos} {e : Expr} {i : Int} (hx : GL c "str" none) (he : EVs c σ [e] [.int i]) (hi : i.natAbs.log2 < 1920) : EV c σ (.Call (.Name "str" p) [e] [] pos) (.str (dec i)) := by
  intro k N g m s Q E w q
  refine wpAny_Call_NameR (W.builtin ok w hx (v := .type "str") (by decide +kernel) (by decide) ?_)
  refine PySem.callWith_type he.noStar (he.args k N g m s _ w fun vs h₁ g₁ t₁ k₁ w₁ l₁ r₁ => ?_)
  cases r₁ with
  | cons r₁ r₂ =>
    cases r₂; cases r₁
    exact PySem.P.str_of_int hi (q _ h₁ g₁ _ k₁ w₁ l₁ (.str _ _))
/-- a text's item -/
theorem EV.item_str {e i : Expr} {pos : Pos} {x : Str} {j : Int} (he : EV c σ e (.str x)) (hi : EV c σ i (.int j)) (h1 : 0 ≤ j) (h2 : j < 1000000) (hin : (Txt.charAt x j).isSome = true)
    (hs : ∀ o k, subscripted i false o k = operate [o, k] (getItem o k)) : EV c σ (.Subscript e i pos) (.str (Txt.item x j)) := by
  intro k N g m s Q E w q
  refine Subscript_ (he k N g m s _ _ w fun v₁ h₁ g₁ t₁ k₁ w₁ l₁ r₁ => ?_)
  refine hi k N g₁ m _ _ _ w₁ fun v₂ h₂ g₂ t₂ k₂ w₂ l₂ r₂ => ?_
  cases r₂; cases r₁
  obtain ⟨T, id, hl, ht, hg⟩ := SB.item (prog := c.prog) (w := c.w) (A := c.A) (E := E) (s := { s with heap := h₂, toks := t₂ }) (by unfold fitsSsize; simp; omega) hin (q _ h₂ g₂ _ (k₁.trans k₂) w₂ (l₁.trans l₂) (.str _ _))
  exact tail_any ht hl hg (hs _ _)
/-- try: the body ends by itself -/
theorem SX.try_assign (ok : c.Ok) {x : Str} {e : Expr} {p p' pos : Pos} {d : D} {hd : ExceptHandler} {hs : List ExceptHandler} (he : EV c σ e d) (hu : Upd σ x (.val d) σ') (hw : swapsWith e (some (.Name x p')) p.line c.env = pure false) (k : SX c E σ' rest Φ) : SX c E σ (.Try [.Assign [.Name x p'] e p] (hd :: hs) [] [] pos :: rest) Φ := by
  refine SX.step fun kk N g m s w => wpAny_Try_except ?_
  refine wpAny_execs_cons (wpAny_Assign_Name (he kk N g m s _ _ w fun v h₁ g₁ t₁ k₁ w₁ l₁ r₁ => ?_) hw)
  refine W.put ok w₁ r₁ hu fun h' tk w' => ?_
  exact wpAny_execs_nil (wpAny_execs_nil ⟨h', tk, g₁, _, σ', .next, rfl, w', .next, k⟩)
theorem EVB.inTab (ok : c.Ev) {e : Expr} {x : Str} {d : Addr} {D' : List (PyData × PyData)} {p pos : Pos} {y : Str} (he : EV c σ e (.str y)) (hx : GL c x (some (.ref d))) (T : StrTab c.prog c.w c.h₁ d D') : EVB c σ (.Compare e [.In] [.Name x p] pos) (Spec.lookup (.str y) D').isSome := by
  intro k N g m s Q E w h
  refine wpAny_isTrue_Compare1 (he k N g m s _ _ w fun v₁ h₁ g₁ t₁ k₁ w₁ l₁ r₁ => ?_) rfl
  refine W.global ok w₁ hx ?_
  cases r₁
  exact in_strTab (T.keep w₁.keep₁) (TR.bool g₁ _ _ _ _ w₁.gin (.bool _) fun tk => h h₁ g₁ tk k₁ w₁ l₁)
noncomputable def D.ofPy : PyData → D
  | .int i => .int i
  | .str x => .str x
  | .bool b => .bool b
  | _ => .none
theorem rep_flat {g : G} {v : Value} {d : PyData} (h : V.Flat v d) : (∃ i, d = .int i) ∨ (∃ x, d = .str x) → Rep g v (D.ofPy d) := by
  rintro (⟨i, rfl⟩ | ⟨x, rfl⟩)
  · have := h {}
    cases this; exact .int _ _
  · have := h {}
    cases this; exact .str _ _
theorem EV.itemTab (ok : c.Ev) {e : Expr} {x : Str} {d : Addr} {D' : List (PyData × PyData)} {p pos : Pos} {y : Str} {dv : PyData} (he : EV c σ e (.str y)) (hx : GL c x (some (.ref d))) (T : StrTab c.prog c.w c.h₁ d D') (hl : Spec.lookup (.str y) D' = some dv) (hdv : (∃ i, dv = .int i) ∨ (∃ x, dv = .str x))
    (hs : ∀ o k, subscripted e false o k = operate [o, k] (getItem o k)) : EV c σ (.Subscript (.Name x p) e pos) (D.ofPy dv) := by
  intro k N g m s Q E w h
  refine Subscript_ (W.global ok w hx ?_)
  refine he k N g m s _ _ w fun v₁ h₁ g₁ t₁ k₁ w₁ l₁ r₁ => ?_
  cases r₁
  exact item_strTab (T.keep w₁.keep₁) hl (fun v hv => h v h₁ g₁ _ k₁ w₁ l₁ (rep_flat hv hdv)) (hs _ _) (fun _ => rfl)
theorem EV.getTab (ok : c.Ev) {e e' : Expr} {x : Str} {d : Addr} {D' : List (PyData × PyData)} {p p' pos : Pos} {y z : Str} (he : EVs c σ [e, e'] [.str y, .str z]) (hx : GL c x (some (.ref d))) (T : StrTab c.prog c.w c.h₁ d D') {r : Str} (hr : (Spec.lookup (.str y) D').getD (.str z) = .str r)
    (hline : (p'.endLine == pos.line) = true) : EV c σ (.Call (.Attribute (.Name x p) "get" p') [e, e'] [] pos) (.str r) := by
  intro k N g m s Q E w h
  refine wpAny_Call_method_lateS rfl (by rw [he.plain]; rfl) hline (W.global ok w hx ?_)
  have T₀ := T.keep w.keep₁
  obtain ⟨lo, kvs, hd, hf⟩ := T₀
  obtain ⟨o, es, ep, ho, hex, hr'⟩ := id hd
  refine ⟨"dict", "dict.get", PySem.F.plainAttrs_dict, PySem.F.slot_dict_get, PySem.F.type_dict_get, hd.typeIs, fun b e => ?_, ?_⟩
  · cases e; exact ⟨o, ho, hex.2.1⟩
  · refine Calls.callWith_builtin he.noStar (he.args k N g m s _ w fun vs h₁ g₁ t₁ k₁ w₁ l₁ r₁ => ?_)
    cases r₁ with
    | cons r₁ r₂ => cases r₂ with
      | cons r₂ r₃ =>
        cases r₃; cases r₁; cases r₂
        refine call_get2_strTab (T.keep w₁.keep₁) (V.Flat.str _ _) fun v hv => ?_
        rw [hr] at hv
        exact h v h₁ g₁ _ k₁ w₁ l₁ (rep_flat hv (.inr ⟨_, rfl⟩))
end
end Mine
namespace Mine
theorem typeCall_int2 (a b : Value) : checkTypeCall "int" ⟨[a, b], []⟩ = pure () := by kernel_rfl
theorem newCall_int2 (a b : Value) : checkBuiltinCall "int.__new__" ⟨[.type "int", a, b], []⟩ = pure () := by kernel_rfl
set_option maxHeartbeats 4000000 in
theorem gives_text10 {x : PySem.Str} {u t : Tok} {n : Int} (hl : x.length ≤ 640) (hn : PySem.intText? x = some n) : Gives (Builtin.«int.__new__» ⟨[.type "int", .str x u, .int 10 t], []⟩) (.int n) :=
  .of_wp fun M A E s Q h => by
    obtain ⟨hp, g, d, tk, os⟩ := s
    have f1 := PySem.F.conv_sub_int
    have f2 := PySem.F.madeHere_int
    have f6 : typeOf (.str x u) = pure (.type "str") := rfl
    have hs : (PySem.numSeenOf x).length ≤ 640 := Nat.le_trans (PySem.seen_length x) hl
    have hr : (int_private% "readNumeral") 0 10 (PySem.numSeenOf x) = (int_private% "Numeral.value") n ∧ ((PySem.numSeenOf x).length == (PySem.numTextOf x).length) = true := by
      rcases PySem.read0 x hs with ⟨m, h1, h2, h3⟩ | ⟨h1, _⟩
      · rw [hn] at h1
        injection h1 with h1
        subst h1
        exact ⟨h3, h2⟩
      · rw [hn] at h1
        cases h1
    have hk := KIN.Hid.mk (And.intro hs hr)
    clear hs hr hl hn
    repeat (any_goals (first
      | assumption
      | ((with_reducible show wpAny _ _ ((int_private% "intFromText") _ _ _) _ _ _); refine KIN.wp_text hk.out.1 hk.out.2.1 hk.out.2.2 ?_)
      | wp_step))
    all_goals first | exact ⟨_, rfl, h⟩ | skip
section
variable {c : Cfg} {σ σ' σ₁ σ₂ : Sig} {E : ERes} {EE : Value → Shared → Prop} {Φ : AFlow → Sig → Prop} {rest : List Stmt}
theorem EV.int10 (ok : c.Ev) {p pos : Pos} {e e' : Expr} {x : Str} {n : Int} (hx : GL c "int" none) (he : EVs c σ [e, e'] [.str x, .int 10]) (hl : x.length ≤ 640) (hn : PySem.intText? x = some n) : EV c σ (.Call (.Name "int" p) [e, e'] [] pos) (.int n) := by
  intro k N g m s Q E w q
  refine wpAny_Call_NameR (W.builtin ok w hx (v := .type "int") (by decide +kernel) (by decide) ?_)
  refine PySem.callWith_type he.noStar (he.args k N g m s _ w fun vs h₁ g₁ t₁ k₁ w₁ l₁ r₁ => ?_)
  cases r₁ with
  | cons r₁ r₂ => cases r₂ with
    | cons r₂ r₃ =>
      cases r₃; cases r₁; cases r₂
      exact callType_new PySem.F.called_int PySem.F.newNe_int (typeCall_int2 _ _) (newCall_int2 _ _) (fun obj => PySem.F.args_object_init_3 obj _ _) PySem.F.entry_int_new (gives_text10 hl hn).meets (show (Made.int n).post _ _ from ⟨rfl, q _ h₁ g₁ _ k₁ w₁ l₁ (.int _ _)⟩)
end
end Mine
namespace Mine
open Builtin
section
open Builtin.Str
variable {M : Model} {A : Around} {E : Value → Shared → Prop} {s : Shared} {l : List Nat} {p : List Value} {r : List Nat}
  {f : Nat → List Value × Writer × List Nat → Sem (ForInStep (List Value × Writer × List Nat))} {Q : List Value × Writer × List Nat → Shared → Prop}
  {w : Writer} {T x y : PySem.Str} {N K : Nat} {o : Option Value}
theorem after_intL {c : Percent} {n : Int} {d : List Nat} (g : KPc.Good w T N) (h1 : c.alt = false) (h2 : c.type = 100 ∨ c.type = 105 ∨ c.type = 117) (h3 : c.prec = none) (hn : 0 ≤ n) (hm : n < 10 ^ 64)
    (hd : d = (PySem.Str.ofString (toString ((n.natAbs : Nat) : Int))).cps.toList) (ho : o = none) (h : ∀ w', KPc.Good w' (T ++ PySem.Str.ofString (toString n)) (N + 64) → wpAny M A (forIn l (p, w', r) f) Q E s) :
    wpAny M A (forIn l (p, w.add ⟨(percentInt c (decide (n < 0)) d).toArray⟩ o, r) f) Q E s := by
  have en : ((n.natAbs : Nat) : Int) = n := Int.natAbs_of_nonneg hn
  rw [KPc.int_text c h1 h2 h3 hn, hd, en]
  exact KPc.after_str g (toString_length_le hn (by decide) hm) (KPc.obj_none ho) h
end
local macro_rules | `(tactic| kpt_piece) => `(tactic| (refine Mine.after_intL (by kpc_g) rfl (by kpc_kind) rfl (by kpt_fact) (by kpt_fact) rfl (by kpc_none) ?_; intro _ _))
set_option maxHeartbeats 8000000 in
theorem fmt_sd {b : Addr} {x : Str} {n : Int} {t u v : Tok} (hx : x.length ≤ 1000000) (h0 : 0 ≤ n) (h1 : n < 10 ^ 64) :
    Meets («str.__mod__» ⟨[.str ⟨#[37, 115, 37, 100]⟩ t, .ref b], []⟩) (fun _ R s => IsTup s.heap b #[.str x u, .int n v] ∧ ∀ t' k, R (.ok (.ret (.str (x ++ Str.ofString (toString n)) t'))) { s with toks := k }) := by
  kpt_run
end Mine
namespace Mine
open Builtin
set_option maxHeartbeats 8000000 in
theorem fmt_one {x : Str} {t u : Tok} (hx : x.length ≤ 1000000) :
    Meets («str.__mod__» ⟨[.str ⟨#[40, 37, 115, 41]⟩ t, .str x u], []⟩) (fun _ R s => ∀ t' k, R (.ok (.ret (.str (Str.ofString "(" ++ x ++ Str.ofString ")") t'))) { s with toks := k }) := by
  kpc_run_s
section
variable {c : Cfg} {σ σ' σ₁ σ₂ : Sig}
theorem mod_tup {prog : Program} {w : World} {A : Around} {E : Value → Shared → Prop} {s : Shared} {X X' T : PySem.Str} {t : Tok} {Q : Value → Shared → Prop} {b : Addr} {its : Array Value} (ht : IsTup s.heap b its) (hX : X = X')
    (hm : Meets («str.__mod__» ⟨[.str X' t, .ref b], []⟩) (fun _ R s => IsTup s.heap b its ∧ ∀ t' k, R (.ok (.ret (.str T t'))) { s with toks := k }))
    (h : ∀ t' k, Q (.str T t') { s with toks := k }) : wpAny (model prog w) A (binaryOp .Mod (.str X t) (.ref b)) Q E s := by
  subst hX
  have hT : s.TypeIs (.ref b) "tuple" := by
    obtain ⟨o, ho, hc, _⟩ := ht
    exact ⟨o, ho, hc⟩
  exact KPt.bin_left (T := "str") (U := "tuple") (op := .Mod) (by decide) (typeIs_str s X t) hT PySem.F.fills_str_mod KPt.fills_tuple PySem.F.slot_str_mod
    (call_meets PySem.F.slot_str_mod (typeIs_str s X t) PySem.F.entry_str_mod (PySem.F.args_str_mod_2 _ _) hm ⟨ht, fun t' k => ⟨(fun e => nomatch e), h t' k⟩⟩)
theorem OP2.fmt_sd {x : Str} {n : Int} (hx : x.length ≤ 1000000) (h0 : 0 ≤ n) (h1 : n < 10 ^ 64) : OP2 c (binaryOp .Mod) (.str (Str.ofString "%s%d")) (.tup [.str x, .int n]) (.str (x ++ dec n)) := .of fun s g v₁ v₂ Q E hg r1 r2 q => by
  cases r1
  obtain ⟨a, us, rfl, hl, hr⟩ := r2.isTup hg (s := s)
  cases hr with | cons r1 hr => cases hr with | cons r2 hr => cases hr; cases r1; cases r2; exact mod_tup hl (by decide +kernel) (Mine.fmt_sd hx h0 h1) fun t' k => q _ k (.str _ t')
theorem OP2.fmt_one {x : Str} (hx : x.length ≤ 1000000) : OP2 c (binaryOp .Mod) (.str (Str.ofString "(%s)")) (.str x) (.str (Str.ofString "(" ++ x ++ Str.ofString ")")) := .of fun s g v₁ v₂ Q E hg r1 r2 q => by
  cases r1; cases r2
  rw [show Str.ofString "(%s)" = ⟨#[40, 37, 115, 41]⟩ by decide +kernel]
  exact binaryOp_meets (T := "str") (op := .Mod) (typeIs_str s _ _) (typeIs_str s x _) PySem.F.fills_str_mod PySem.F.slot_str_mod PySem.F.entry_str_mod (PySem.F.args_str_mod_2 _ _) (Mine.fmt_one hx) (fun t' k => ⟨(fun e => nomatch e), q _ k (.str _ t')⟩)
/-- f-strings -/
theorem EV.fmtS {e : Expr} {pos : Pos} {x : Str} (he : EV c σ e (.str x)) (hx : x.length ≤ 16777216) : EV c σ (.FormattedValue e 115 none pos) (.str x) := by
  intro k N g m s Q E w q
  rw [arm_eval_FormattedValue]
  refine wpAny_bind (he k N g m s _ _ w fun v h₁ g₁ t₁ k₁ w₁ l₁ r₁ => ?_)
  cases r₁
  refine wpAny_bind (wpAny_standAt ?_)
  have hx' : x.length ≤ sizeLine := by rw [sizeLine_eq]; exact hx
  refine wpAny_bind (wpAny_holding ?_)
  show wpAny _ _ (habitSame "fstring-hands-on-the-str" (.str x _)) _ _ _
  exact wpAny_habitSame_str (wpAny_formatField_str (q _ h₁ g₁ t₁ k₁ w₁ l₁ (.str _ _)) (q _ h₁ g₁ _ k₁ w₁ l₁ (.str _ _)) hx') (wpAny_formatField_str (q _ h₁ g₁ _ k₁ w₁ l₁ (.str _ _)) (q _ h₁ g₁ _ k₁ w₁ l₁ (.str _ _)) hx') hx'
inductive EJ (c : Cfg) (σ : Sig) : List Expr → Str → Str → Prop where
  | nil {acc : Str} : EJ c σ [] acc acc
  | cons {e : Expr} {es : List Expr} {acc y out : Str} : EV c σ e (.str y) → (acc ++ y).length ≤ 16777216 → EJ c σ es (acc ++ y) out → EJ c σ (e :: es) acc out
theorem EJ.run {es : List Expr} {acc out : Str} (h : EJ c σ es acc out) : ∀ (k : G) (N : Addr → Prop) (g : G) (m : Str → Option Value) (s : Shared) (Q : Str → Shared → Prop) (E : Value → Shared → Prop), W c k N g m σ s.heap →
    (∀ h' g' tk, Keep s.heap h' → W c k N g' m σ h' → Le g g' → Q out { s with heap := h', toks := tk }) → Joins c.M c.A E (evalEach es c.env) acc Q s := by
  induction h with
  | nil => intro k N g m s Q E w q; exact q s.heap g s.toks (Keep.refl _) w (Le.refl _)
  | cons h1 h2 _ ih =>
    intro k N g m s Q E w q
    refine h1 k N g m s _ _ w fun v h₁ g₁ t₁ k₁ w₁ l₁ r₁ => ?_
    cases r₁
    exact ⟨_, _, rfl, by rw [sizeLine_eq]; exact h2, ih k N g₁ m _ Q E w₁ fun h₂ g₂ t₂ k₂ w₂ l₂ => q h₂ g₂ t₂ (k₁.trans k₂) w₂ (l₁.trans l₂)⟩
theorem EJ.len {es : List Expr} {acc out : Str} (h : EJ c σ es acc out) (ha : acc.length ≤ 16777216) : out.length ≤ 16777216 := by
  induction h with
  | nil => exact ha
  | cons _ h2 _ ih => exact ih h2
theorem EV.joined {e e' : Expr} {es : List Expr} {pos : Pos} {out : Str} (h : EJ c σ (e :: e' :: es) Str.empty out) : EV c σ (.JoinedStr (e :: e' :: es) pos) (.str out) := by
  intro k N g m s Q E w q
  refine wpAny_JoinedStr (h.run k N g m s _ _ w fun h₁ g₁ t₁ k₁ w₁ l₁ => ⟨by rw [sizeLine_eq]; exact h.len (by decide), q _ h₁ g₁ _ k₁ w₁ l₁ (.str _ _)⟩)
theorem empty_app (x : Str) : Str.empty ++ x = x := KPc.empty_app x
theorem EJ.first {e : Expr} {es : List Expr} {y out : Str} (h : EV c σ e (.str y)) (hy : y.length ≤ 16777216) (r : EJ c σ es y out) : EJ c σ (e :: es) Str.empty out := .cons h (by rw [empty_app]; exact hy) (by rw [empty_app]; exact r)
theorem EJ.val {x : Expr} {es : List Expr} {pos : Pos} {acc y out : Str} (h : EV c σ x (.str y)) (hy : acc.length + y.length ≤ 16777216) (r : EJ c σ es (acc ++ y) out) : EJ c σ (.FormattedValue x 115 none pos :: es) acc out := .cons (EV.fmtS h (by omega)) (by rw [Str.length_append]; exact hy) r
theorem EJ.lit {x : Str} {kk : Nat} {es : List Expr} {pos : Pos} {acc out : Str} (hy : acc.length + x.length ≤ 16777216) (r : EJ c σ es (acc ++ x) out) : EJ c σ (.Constant (.str x) kk pos :: es) acc out := .cons EV.const_str (by rw [Str.length_append]; exact hy) r
end
end Mine
namespace Mine
section
variable {c : Cfg} {σ σ' σ₁ σ₂ : Sig} {E : ERes} {EE : Value → Shared → Prop} {Φ : AFlow → Sig → Prop} {rest : List Stmt}
noncomputable def turnK (Φ : AFlow → Sig → Prop) (K J : Sig → Prop) : AFlow → Sig → Prop
  | .next, σ | .cont, σ => J σ
  | .brk, σ => K σ
  | .ret d, σ => Φ (.ret d) σ
theorem SX.whileK {test : Expr} {body : List Stmt} {pos : Pos} (hE : PassesOwn c.M c.A c.env (fun _ _ => False)) (J : Nat → Sig → Prop) (K : Sig → Prop) (n : Nat) (h0 : J n σ)
    (turn : ∀ n σ₁, J n σ₁ → ∃ b σ₂, EXB c σ₁ test b σ₂ ∧ (b = true → SX c E σ₂ body (turnK Φ K fun σ₃ => ∃ n', n' < n ∧ J n' σ₃)) ∧ (b = false → K σ₂))
    (done : ∀ σ₁, K σ₁ → SX c E σ₁ rest Φ) : SX c E σ (.While test body [] pos :: rest) Φ := by
  refine SX.while hE J n h0 fun n σ₁ hJ => ?_
  obtain ⟨b, σ₂, h1, h2, h3⟩ := turn n σ₁ hJ
  refine ⟨b, σ₂, h1, fun e => (h2 e).mono fun f σ' h => ?_, fun e => done _ (h3 e)⟩
  cases f with
  | brk => exact done _ h
  | _ => exact h
theorem PF.mono {prog : Program} {w : World} {h₁ : Heap} {f : Addr} {n n' : Nat} {ds args ds' : List D} {r : D} (h : PF prog w h₁ f n ds args r ds') (hn : n ≤ n') : PF prog w h₁ f n' ds args r ds' :=
  fun A s g a ws Q E h1 h2 h3 => h A s g a ws Q E h1 (by omega) (by omega)
theorem FN.mono {prog : Program} {w : World} {h₁ : Heap} {f : Addr} {n n' : Nat} {args : List D} {r : D} (h : FN prog w h₁ f n args r) (hn : n ≤ n') : FN prog w h₁ f n' args r :=
  fun A s g vs Q E h1 h2 h3 => h A s g vs Q E h1 (by omega) (by omega)
theorem GL.of {prog : Program} {w : World} {h₁ : Heap} {mg : Str → Option Value} {x : Str} {v : Option Value} {sc : Scope} (is : c.Is prog w h₁ mg) (hs : c.env.scope = sc) (h1 : sc.names.lookup x = some .globalImplicit) (h2 : (x == ("__debug__" : Str)) = false) (h3 : mg x = v) : GL c x v :=
  ⟨by unfold Env.kindOf; rw [hs]; exact h1, h2, by rw [is.mg]; exact h3⟩
theorem EVs.one {e : Expr} {d : D} (h : EV c σ e d) (hs : ∀ env, backTo default (starEach [e] env) = [(false, eval e env)]) : EVs c σ [e] [d] := .cons h hs .nil
theorem EVB.cast {e : Expr} {b b' : Bool} (h : EVB c σ e b) (hb : b = b') : EVB c σ e b' := hb ▸ h
theorem EV.cast {e : Expr} {d d' : D} (h : EV c σ e d) (hb : d = d') : EV c σ e d' := hb ▸ h
theorem EVB.and1 {e : Expr} {pos : Pos} {b : Bool} (h : EVB c σ e b) : EVB c σ (.BoolOp .And [e] pos) b := (EVB.and h fun _ => EVB.and_nil).cast (Bool.and_true b)
theorem EVB.or1 {e : Expr} {pos : Pos} {b : Bool} (h : EVB c σ e b) : EVB c σ (.BoolOp .Or [e] pos) b := (EVB.or h fun _ => EVB.or_nil).cast (Bool.or_false b)
theorem EV.isdigit {o : Expr} {apos pos : Pos} {x : Str} (he : EV c σ o (.str x)) (hbase : attributeBase o "isdigit" c.env (eval o c.env) = eval o c.env) (hline : (apos.endLine == pos.line) = true) :
    EV c σ (.Call (.Attribute o "isdigit" apos) [] [] pos) (.bool (Txt.isdigit x)) := by
  intro k N g m s Q E w q
  refine wpAny_Call_method_lateS hbase rfl hline (he k N g m s _ _ w fun v h₁ g₁ t₁ k₁ w₁ l₁ r₁ => ?_)
  cases r₁
  exact SB.isdigit (q _ h₁ g₁ t₁ k₁ w₁ l₁ (.bool _))
theorem EVB.of_bool {e : Expr} {b : Bool} (h : EV c σ e (.bool b)) (he : isTrue e c.env (eval e c.env) = (do let v ← eval e c.env; standAt e.pos; holding [v] (truthy v))) : EVB c σ e b := EVB.plain h TR.bool he
/-- the branch of a test that is known -/
theorem SX.ite_true {t : Expr} {body orelse : List Stmt} {p : Pos} (ht : EVB c σ t true) (h1 : SX c E σ body (seqT c E rest Φ)) : SX c E σ (.If t body orelse p :: rest) Φ := SX.ite ht (fun _ => h1) fun e => nomatch e
theorem SX.ite_false {t : Expr} {body orelse : List Stmt} {p : Pos} (ht : EVB c σ t false) (h2 : SX c E σ orelse (seqT c E rest Φ)) : SX c E σ (.If t body orelse p :: rest) Φ := SX.ite ht (fun e => nomatch e) fun _ => h2
/-- an if that joins: both ways go to one K -/
noncomputable def turnJ (Φ : AFlow → Sig → Prop) (K : Sig → Prop) : AFlow → Sig → Prop
  | .next, σ => K σ
  | f, σ => Φ f σ
theorem SX.join {t : Expr} {b : Bool} {body orelse : List Stmt} {p : Pos} (K : Sig → Prop) (ht : EVB c σ t b) (h1 : b = true → SX c E σ body (turnJ Φ K)) (h2 : b = false → SX c E σ orelse (turnJ Φ K)) (done : ∀ σ', K σ' → SX c E σ' rest Φ) : SX c E σ (.If t body orelse p :: rest) Φ := by
  have key : ∀ f σ', turnJ Φ K f σ' → seqT c E rest Φ f σ' := fun f σ' h => by
    cases f with
    | next => exact done _ h
    | _ => exact h
  exact SX.ite ht (fun e => (h1 e).mono key) fun e => (h2 e).mono key
end
theorem bind_one {fd : FuncData} {x : Str} (h : ∀ v, bindArgs fd ⟨[v], []⟩ = pure [(x, v)]) : ∀ (s : Shared) (vs : List Value), vs.length = [x].length → BindsTo s fd ⟨vs, []⟩ ([x].zip vs) := by
  intro s vs hv
  obtain ⟨v, rfl⟩ := List.length_eq_one_iff.mp hv
  exact BindsTo.of_eq (h v)
theorem bind_two {fd : FuncData} {x y : Str} (h : ∀ v u, bindArgs fd ⟨[v, u], []⟩ = pure [(x, v), (y, u)]) : ∀ (s : Shared) (vs : List Value), vs.length = [x, y].length → BindsTo s fd ⟨vs, []⟩ ([x, y].zip vs) := by
  intro s vs hv
  match vs, hv with
  | [v, u], _ => exact BindsTo.of_eq (h v u)
theorem ne_of_beq {a b : Str} (h : (a == b) = false) : ¬ a = b := fun e => by rw [e] at h; simp at h
theorem glob_at {K : Frag} {h₁ : Heap} {mg : Str → Option Value} (KX : K.In h₁) (T : h₁.Ns mainGlobals mg) {o : Obj} {es : Array DictEntry} {n : Nat} (hK : K.lookup mainGlobals = some o) (ho : o.data = .dict es n) (x : Str) : mg x = nsFind es x := by
  obtain ⟨o', es', ep, ho', hd, hk, hm⟩ := T
  rw [KX _ _ hK] at ho'
  cases ho'
  rw [ho] at hd
  cases hd
  exact (hm x).symm
/-- the function at an address of a fragment -/
noncomputable def fdOf (K : Frag) (a : Addr) : FuncData := match K.lookup a with
  | some o => match o.data with
    | .func fd => fd
    | _ => default
  | none => default
/-- a dict of the text, row by row -/
noncomputable def TabRows (w : World) : List DictEntry → List (Str × PyData) → Prop
  | [], [] => True
  | e :: es, (k, d) :: ps => (∃ t, e.key = .str k t) ∧ e.hash = hashStr w k ∧ V.Flat e.val d ∧ TabRows w es ps
  | _, _ => False
theorem strTab_of {prog : Program} {w : World} {h : Heap} {d : Addr} {o : Obj} {es : Array DictEntry} {n : Nat} (ps : List (Str × PyData)) (lo : (d == sysModules) = false) (ho : h.get? d = some o) (hex : o.ExactDict) (hdat : o.data = .dict es n) (hrows : TabRows w es.toList ps) (hnd : (ps.map (·.1)).Nodup) :
    StrTab prog w h d (ps.map fun p => (.str p.1, p.2)) := by
  have aux : ∀ (l : List DictEntry) (ps : List (Str × PyData)), TabRows w l ps → ∃ kvs : List (Str × Value), kvs.map (·.1) = ps.map (·.1) ∧ (∀ e ∈ l, ∃ k, (PySem.strKind prog w).is k e.key = true ∧ e.hash = (PySem.strKind prog w).hash k) ∧ Pairs (PySem.strKind prog w) l kvs ∧ V.FlatPairs PyData.str kvs (ps.map fun p => (.str p.1, p.2)) := by
    intro l
    induction l with
    | nil =>
      intro ps hr
      cases ps with
      | nil => exact ⟨[], rfl, (by intro e h; cases h), .nil, .nil⟩
      | cons _ _ => exact hr.elim
    | cons e l ih =>
      intro ps hr
      cases ps with
      | nil => exact hr.elim
      | cons p ps =>
        obtain ⟨k, dd⟩ := p
        obtain ⟨⟨t, hkey⟩, hh, hf, hr⟩ := hr
        obtain ⟨kvs, h1, h2, h3, h4⟩ := ih ps hr
        have hk : (PySem.strKind prog w).is k e.key = true := by rw [hkey]; exact strKind_is prog w k t
        refine ⟨(k, e.val) :: kvs, by simp [h1], fun e' he => ?_, .cons hk rfl h3, .cons hf h4⟩
        rcases List.mem_cons.mp he with rfl | he
        · exact ⟨k, hk, hh⟩
        · exact h2 e' he
  obtain ⟨kvs, h1, h2, h3, h4⟩ := aux _ _ hrows
  refine TabAt.ofObj lo ho ⟨es, n, hex, hdat, fun e he => h2 e (by simpa using he), h3, by rw [h1]; exact hnd⟩ h4
theorem lookup_strs {ps : List (Str × PyData)} {y : Str} : Spec.lookup (.str y) (ps.map fun p => (.str p.1, p.2)) = ps.lookup y := by
  induction ps with
  | nil => rfl
  | cons p ps ih =>
    rw [List.map_cons, List.lookup_cons]
    unfold Spec.lookup
    rw [V.same_str, ih]
    by_cases h : y = p.1
    · subst h; simp
    · rw [show (y == p.1) = false from beq_eq_false_iff_ne.mpr h]
      have h' : ¬ p.1 = y := fun e => h e.symm
      simp [h, h']
end Mine
namespace Mine
noncomputable abbrev tk (s : String) : Str := Str.ofString s
/-- the levels of the operations -/
noncomputable def opsTab : List (Str × Int) := [(tk "||", 1), (tk "&&", 2), (tk "==", 3), (tk "!=", 3), (tk "<", 4), (tk ">", 4), (tk "<=", 4), (tk ">=", 4), (tk "+", 5), (tk "-", 5), (tk "*", 6), (tk "/", 6), (tk "%", 6)]
noncomputable def lvl (t : Str) : Option Int := opsTab.lookup t
noncomputable def pyTab : List (Str × Str) := [(tk "||", tk "or"), (tk "&&", tk "and"), (tk "/", tk "//")]
noncomputable def pyOp (t : Str) : Str := (pyTab.lookup t).getD t
/-- 'not ' k times -/
noncomputable def notTxt : Nat → Str
  | 0 => tk ""
  | k + 1 => notTxt k ++ tk "not "
noncomputable def paren (x : Str) : Str := tk "(" ++ x ++ tk ")"
noncomputable def isCmp (i : Int) : Bool := [3, 4].any (· == i)
noncomputable def errMsg (t : Str) : Str := if t.length = 0 then tk "unexpected end of plural form" else tk "unexpected token in plural form: " ++ t
noncomputable def unbal : Str := tk "unbalanced parenthesis in plural form"
inductive PRes where
  | ok (text next : Str) (rest : List Str)
  | bad (msg : Str) (rest : List Str)
  | out
/-- what _parse gives: `start` at its head, `atom` behind the nots, `loop` at the while, `tail` behind it -/
inductive Mode where
  | start (p : Int)
  | loop (p : Int) (res : Str) (j : Int) (nx : Str)
  | tail (p : Int) (res : Str) (nx : Str)
noncomputable def skipNots : List Str → Nat × List Str
  | [] => (0, [])
  | t :: r => if t = tk "!" then ((skipNots r).1 + 1, (skipNots r).2) else (0, t :: r)
noncomputable def run : Nat → Mode → List Str → PRes
  | 0, _, _ => .out
  | f + 1, .start p, toks =>
    match skipNots toks with
    | (_, []) => .out
    | (k, t :: r) =>
      if t = tk "(" then
        match run f (.start (-1)) r with
        | .ok sub nx r' => if nx = tk ")" then (match r' with | [] => .out | nx' :: r'' => run f (.loop p (notTxt k ++ tk "(" ++ sub ++ tk ")") 100 nx') r'') else .bad unbal r'
        | .bad m r' => .bad m r'
        | .out => .out
      else if t = tk "n" then (match r with | [] => .out | nx' :: r'' => run f (.loop p (notTxt k ++ t) 100 nx') r'')
      else match PySem.intText? t with
        | some n => (match r with | [] => .out | nx' :: r'' => run f (.loop p (notTxt k ++ dec n) 100 nx') r'')
        | none => .bad (errMsg t) r
  | f + 1, .loop p res j nx, r =>
    match lvl nx with
    | none => run f (.tail p (if j = p ∧ p = 4 then paren res else res) nx) r
    | some i =>
      if i < p then run f (.tail p (if j = p ∧ p = 4 then paren res else res) nx) r
      else match run f (.start (i + 1)) r with
        | .ok right nx' r' => run f (.loop p ((if isCmp i && isCmp j then paren res else res) ++ tk " " ++ pyOp nx ++ tk " " ++ right) i nx') r'
        | .bad m r' => .bad m r'
        | .out => .out
  | f + 1, .tail p res nx, r =>
    if nx = tk "?" ∧ p ≤ 0 then
      match run f (.start 0) r with
      | .ok yes nx1 r1 =>
        if nx1 = tk ":" then
          match run f (.start (-1)) r1 with
          | .ok no nx2 r2 => .ok (if p = 0 then paren (yes ++ tk " if " ++ res ++ tk " else " ++ no) else yes ++ tk " if " ++ res ++ tk " else " ++ no) nx2 r2
          | .bad m r' => .bad m r'
          | .out => .out
        else .bad (errMsg nx1) r1
      | .bad m r' => .bad m r'
      | .out => .out
    else .ok res nx r
/-- tokens of a bounded size -/
noncomputable def Small (t : Str) : Prop := t.length ≤ 64 ∧ ∀ n, PySem.intText? t = some n → 0 ≤ n ∧ n < 10 ^ 64 ∧ (dec n).length ≤ 64
noncomputable def Smalls (ts : List Str) : Prop := ∀ t ∈ ts, Small t
theorem skipNots_length : ∀ ts : List Str, (skipNots ts).1 + (skipNots ts).2.length = ts.length
  | [] => rfl
  | t :: r => by
    unfold skipNots
    have := skipNots_length r
    split
    · simp only [List.length_cons]; omega
    · simp
theorem skipNots_mem : ∀ (ts : List Str) (x : Str), x ∈ (skipNots ts).2 → x ∈ ts
  | [], _, h => h
  | t :: r, x, h => by
    unfold skipNots at h
    split at h
    · exact .tail _ (skipNots_mem r x h)
    · exact h
theorem notTxt_length : ∀ k, (notTxt k).length = 4 * k
  | 0 => by decide +kernel
  | k + 1 => by
    show (notTxt k ++ tk "not ").length = _
    rw [Str.length_append, notTxt_length k, show (tk "not ").length = 4 by decide +kernel]; omega
theorem paren_length (x : Str) : (paren x).length = x.length + 2 := by
  unfold paren
  rw [Str.length_append, Str.length_append, show (tk "(").length = 1 by decide +kernel, show (tk ")").length = 1 by decide +kernel]; omega
end Mine
namespace Mine
theorem lvl_mem {t : Str} {i : Int} (h : lvl t = some i) : (t, i) ∈ opsTab := mem_of_lookup h
theorem pyOp_length {t : Str} {i : Int} (h : lvl t = some i) : (pyOp t).length ≤ 3 := by
  have hm := lvl_mem h
  have : ∀ q ∈ opsTab, (pyOp q.1).length ≤ 3 := by decide +kernel
  exact this _ hm
theorem lvl_range {t : Str} {i : Int} (h : lvl t = some i) : 1 ≤ i ∧ i ≤ 6 := by
  have hm := lvl_mem h
  have : ∀ q ∈ opsTab, 1 ≤ q.2 ∧ q.2 ≤ 6 := by decide +kernel
  exact this _ hm
theorem ite_paren_length (b : Prop) [Decidable b] (x : Str) : (if b then paren x else x).length ≤ x.length + 2 := by
  split
  · rw [paren_length]; omega
  · omega
theorem run_len : ∀ (f : Nat) (m : Mode) (toks : List Str) (text nx : Str) (rest : List Str), Smalls toks → run f m toks = .ok text nx rest →
    Smalls rest ∧ (match m with
      | .start _ => Small nx ∧ text.length + 80 * (rest.length + 1) ≤ 80 * toks.length
      | .loop _ res _ nx₀ => (Small nx₀ → Small nx) ∧ ∀ B, res.length + 2 ≤ B → text.length + 80 * rest.length ≤ B + 80 * toks.length
      | .tail _ res nx₀ => (Small nx₀ → Small nx) ∧ ∀ B, res.length ≤ B → text.length + 80 * rest.length ≤ B + 80 * toks.length)
  | 0, _, _, _, _, _, _, h => by simp [run] at h
  | f + 1, .start p, toks, text, nx, rest, hs, h => by
    have hl := skipNots_length toks
    have hm := skipNots_mem toks
    unfold run at h
    rcases hk : skipNots toks with ⟨k, r₀⟩
    rw [hk] at h hl hm
    cases r₀ with
    | nil => simp at h
    | cons t r =>
      dsimp only at h hl hm
      have ht : Small t := hs t (hm t (.head _))
      have hr : Smalls r := fun x hx => hs x (hm x (.tail _ hx))
      simp only [List.length_cons] at hl
      have fin : ∀ (res nx' : Str) (r'' : List Str) (B : Nat), Smalls (nx' :: r'') → run f (.loop p res 100 nx') r'' = .ok text nx rest → res.length + 2 ≤ B → B + 80 * r''.length + 80 ≤ 80 * toks.length → Smalls rest ∧ Small nx ∧ text.length + 80 * (rest.length + 1) ≤ 80 * toks.length := by
        intro res nx' r'' B hs' hrun hB hT
        obtain ⟨h1, h2, h3⟩ := run_len f _ r'' text nx rest (fun x hx => hs' x (.tail _ hx)) hrun
        refine ⟨h1, h2 (hs' nx' (.head _)), ?_⟩
        have := h3 B hB
        omega
      by_cases h1 : t = tk "("
      · rw [if_pos h1] at h
        cases hrun : run f (.start (-1)) r with
        | bad m r' => rw [hrun] at h; simp at h
        | out => rw [hrun] at h; simp at h
        | ok sub nx' r' =>
          rw [hrun] at h
          dsimp only at h
          obtain ⟨hr', _, hsub⟩ := run_len f _ r sub nx' r' hr hrun
          by_cases h2 : nx' = tk ")"
          · rw [if_pos h2] at h
            cases r' with
            | nil => simp at h
            | cons nx'' r'' =>
              dsimp only at h
              refine fin _ nx'' r'' (80 * (k + 1 + r.length - (r''.length + 1))) hr' h ?_ ?_
              · simp only [Str.length_append, notTxt_length, show (tk "(").length = 1 by decide +kernel, show (tk ")").length = 1 by decide +kernel]
                simp only [List.length_cons] at hsub
                omega
              · simp only [List.length_cons] at hsub
                omega
          · rw [if_neg h2] at h; simp at h
      · rw [if_neg h1] at h
        by_cases h2 : t = tk "n"
        · rw [if_pos h2] at h
          cases r with
          | nil => simp at h
          | cons nx'' r'' =>
            dsimp only at h
            refine fin _ nx'' r'' (80 * (k + 1)) hr h ?_ ?_
            · simp only [Str.length_append, notTxt_length]; have := ht.1; omega
            · simp only [List.length_cons] at hl; omega
        · rw [if_neg h2] at h
          cases hn : PySem.intText? t with
          | none => rw [hn] at h; simp at h
          | some n =>
            rw [hn] at h
            cases r with
            | nil => simp at h
            | cons nx'' r'' =>
              dsimp only at h
              refine fin _ nx'' r'' (80 * (k + 1)) hr h ?_ ?_
              · simp only [Str.length_append, notTxt_length]; have := (ht.2 n hn).2.2; omega
              · simp only [List.length_cons] at hl; omega
  | f + 1, .loop p res j nx₀, toks, text, nx, rest, hs, h => by
    unfold run at h
    have tl : run f (.tail p (if j = p ∧ p = 4 then paren res else res) nx₀) toks = .ok text nx rest → Smalls rest ∧ (Small nx₀ → Small nx) ∧ ∀ B, res.length + 2 ≤ B → text.length + 80 * rest.length ≤ B + 80 * toks.length := by
      intro hrun
      obtain ⟨h1, h2, h3⟩ := run_len f _ toks text nx rest hs hrun
      exact ⟨h1, h2, fun B hB => h3 B (Nat.le_trans (ite_paren_length _ _) hB)⟩
    cases hl : lvl nx₀ with
    | none => rw [hl] at h; exact tl h
    | some i =>
      rw [hl] at h
      dsimp only at h
      by_cases hi : i < p
      · rw [if_pos hi] at h; exact tl h
      · rw [if_neg hi] at h
        cases hrun : run f (.start (i + 1)) toks with
        | bad m r' => rw [hrun] at h; simp at h
        | out => rw [hrun] at h; simp at h
        | ok right nx' r' =>
          rw [hrun] at h
          dsimp only at h
          obtain ⟨h1, h2, h3⟩ := run_len f _ toks right nx' r' hs hrun
          obtain ⟨h4, h5, h6⟩ := run_len f _ r' text nx rest h1 h
          refine ⟨h4, fun _ => h5 h2, fun B hB => ?_⟩
          have := h6 (B + 80 * (toks.length - r'.length)) (by
            have e1 := ite_paren_length ((isCmp i && isCmp j) = true) res
            have e2 := pyOp_length hl
            simp only [Str.length_append, show (tk " ").length = 1 by decide +kernel]
            omega)
          omega
  | f + 1, .tail p res nx₀, toks, text, nx, rest, hs, h => by
    unfold run at h
    by_cases hc : nx₀ = tk "?" ∧ p ≤ 0
    · rw [if_pos hc] at h
      cases hrun : run f (.start 0) toks with
      | bad m r' => rw [hrun] at h; simp at h
      | out => rw [hrun] at h; simp at h
      | ok yes nx1 r1 =>
        rw [hrun] at h
        dsimp only at h
        obtain ⟨h1, h2, h3⟩ := run_len f _ toks yes nx1 r1 hs hrun
        by_cases hn : nx1 = tk ":"
        · rw [if_pos hn] at h
          cases hrun2 : run f (.start (-1)) r1 with
          | bad m r' => rw [hrun2] at h; simp at h
          | out => rw [hrun2] at h; simp at h
          | ok no nx2 r2 =>
            rw [hrun2] at h
            dsimp only at h
            obtain ⟨h4, h5, h6⟩ := run_len f _ r1 no nx2 r2 h1 hrun2
            injection h with e1 e2 e3
            subst e2 e3
            refine ⟨h4, fun _ => h5, fun B hB => ?_⟩
            rw [← e1]
            have e4 := ite_paren_length (p = 0) (yes ++ tk " if " ++ res ++ tk " else " ++ no)
            simp only [Str.length_append, show (tk " if ").length = 4 by decide +kernel, show (tk " else ").length = 6 by decide +kernel] at e4
            omega
        · rw [if_neg hn] at h; simp at h
    · rw [if_neg hc] at h
      injection h with e1 e2 e3
      subst e1 e2 e3
      exact ⟨hs, id, fun B hB => by omega⟩
end Mine
namespace Mine
noncomputable def dstrs (ts : List Str) : D := .list (ts.map .str)
noncomputable def nats (ns : List Nat) : List D := ns.map fun (n : Nat) => D.int (n : Int)
/-- is an operand due -/
noncomputable def due (row : List Str) : Bool := match row.getLast? with
  | none => true
  | some t => t != tk "n" && (t != tk ")" && !Txt.isdigit t)
/-- the places outside of brackets -/
noncomputable def outGo : Int → Nat → List Str → List Nat
  | _, _, [] => []
  | d, i, t :: r =>
    let d1 := if t = tk "(" then d + 1 else d
    (if d1 = 0 then [i] else []) ++ outGo (if t = tk ")" then d1 - 1 else d1) (i + 1) r
noncomputable def outside (part : List Str) : List Nat := outGo 0 0 part
/-- the matching : -/
noncomputable def colonGo (part : List Str) : Int → List Nat → Int
  | _, [] => -1
  | w, i :: r =>
    if part[i]? = some (tk "?") then colonGo part (w + 1) r
    else if part[i]? = some (tk ":") then (if w - 1 = 0 then (i : Int) else colonGo part (w - 1) r)
    else colonGo part w r
noncomputable def colonOf (part : List Str) (places : List Nat) : Int := colonGo part 0 places
theorem idx_last {α : Type} {ds : List α} {d : α} (h : ds.getLast? = some d) : ds[idx (-1) ds.length]? = some d := by
  rw [← h, List.getLast?_eq_getElem?]; congr 1; simp only [idx]; rw [if_pos (by omega)]; omega
theorem idx_nat (i n : Nat) : idx (i : Int) n = i := by
  simp only [idx]; rw [if_neg (by omega)]; omega
theorem upto_get {n i : Nat} {d : D} (h : (upto n)[i]? = some d) : d = .int (i : Int) ∧ i < n := by
  unfold upto at h
  rw [List.getElem?_map, Option.map_eq_some_iff] at h
  obtain ⟨j, hj, rfl⟩ := h
  have := List.getElem?_eq_some_iff.mp hj
  obtain ⟨h1, h2⟩ := this
  simp at h2 h1
  subst h2
  exact ⟨rfl, h1⟩
theorem upto_length (n : Nat) : (upto n).length = n := by simp [upto]
theorem outGo_mem : ∀ (ts : List Str) (d : Int) (i j : Nat), j ∈ outGo d i ts → i ≤ j ∧ j < i + ts.length
  | [], _, _, _, h => by simp [outGo] at h
  | t :: r, d, i, j, h => by
    unfold outGo at h
    dsimp only at h
    generalize (if t = tk "(" then d + 1 else d) = d1 at h
    rcases List.mem_append.mp h with h | h
    · split at h
      · rw [List.mem_singleton.mp h]; simp
      · cases h
    · have := outGo_mem r _ _ _ h
      simp only [List.length_cons]; omega
theorem outside_lt {ts : List Str} {j : Nat} (h : j ∈ outside ts) : j < ts.length := by
  have := outGo_mem ts 0 0 j h; omega
theorem outside_length (ts : List Str) : (outside ts).length ≤ ts.length := by
  have : ∀ (ts : List Str) (d : Int) (i : Nat), (outGo d i ts).length ≤ ts.length := by
    intro ts
    induction ts with
    | nil => intro d i; simp [outGo]
    | cons t r ih =>
      intro d i
      unfold outGo
      dsimp only
      generalize (if t = tk "(" then d + 1 else d) = d1
      rw [List.length_append]
      have := ih (if t = tk ")" then d1 - 1 else d1) (i + 1)
      simp only [List.length_cons]
      split <;> simp <;> omega
  exact this ts 0 0
end Mine
namespace Mine
section
variable {c : Cfg} {σ σ' σ₁ σ₂ : Sig} {E : ERes} {EE : Value → Shared → Prop} {Φ : AFlow → Sig → Prop} {rest : List Stmt}
/-- a text's tail: x[i:] -/
theorem EV.tail_str {e i : Expr} {pos p : Pos} {x : Str} {j : Int} (he : EV c σ e (.str x)) (hi : EV c σ i (.int j)) (hx : x.length ≤ 1000000) (ht : ∀ o r, letTemporaryGo e o r = pure ()) : EV c σ (.Subscript e (.Slice (some i) none none p) pos) (.str (Txt.slice x (some j) none)) := by
  intro k N g m s Q E w q
  refine wpAny_Subscript_str_slice (he k N g m s _ _ w fun v₁ h₁ g₁ t₁ k₁ w₁ l₁ r₁ => hi k N g₁ m _ _ _ w₁ fun v₂ h₂ g₂ t₂ k₂ w₂ l₂ r₂ => ?_) ht
  cases r₁; cases r₂
  rename_i tx tj
  refine wpAny_pure ⟨x, tx, some (j, tj), none, rfl, rfl, rfl, ?_⟩
  generalize hh₃ : h₂.push { cls := .type "slice", data := .fields #[.int j tj, .none, .none] } = h₃
  have k₃ : Keep h₂ h₃ := hh₃ ▸ Keep.push _ _
  have w₃ := w₂.keep k₃
  have hk := k₁.trans (k₂.trans k₃)
  have hl := l₁.trans l₂
  have hsl := Txt.slice_le x (some j) none
  unfold sliceMade
  show Made.post (if ((1 : Int) == 1 && (Builtin.Str.strSliceIndices (some j) none 1 x.length).length == x.length) = true then _ else _) _ _
  unfold Txt.slice at q hsl
  by_cases hc : ((1 : Int) == 1 && (Builtin.Str.strSliceIndices (some j) none 1 x.length).length == x.length) = true
  · rw [if_pos hc] at q ⊢
    exact q _ h₃ g₂ t₂ hk w₃ hl (.str _ _)
  · rw [if_neg hc] at q hsl ⊢
    exact ⟨by rw [sizeLine_eq]; exact Nat.le_trans hsl (by omega), q _ h₃ g₂ _ hk w₃ hl (.str _ _)⟩
end
end Mine
namespace Mine
noncomputable def stripL : List Nat → List Nat
  | [] => []
  | [c] => [c]
  | c :: d :: r => if c = 48 then stripL (d :: r) else c :: d :: r
/-- a number's text without noughts ahead -/
noncomputable def num (x : Str) : Str := ⟨(stripL x.cps.toList).toArray⟩
theorem tail_eq {x : Str} (h : 1 ≤ x.length) : Txt.slice x (some 1) none = ⟨(x.cps.toList.drop 1).toArray⟩ := by
  rw [slice_from_eq (b := x.length) (by omega) (by omega) rfl]
  congr 2
  rw [List.take_of_length_le]
  · rfl
  · have : x.cps.toList.length = x.length := Array.length_toList
    simp only [List.length_drop, this]; omega
theorem charAt_zero {x : Str} {c : Nat} {r : List Nat} (h : x.cps.toList = c :: r) : Txt.charAt x 0 = some c := by
  have hl : x.length = r.length + 1 := by
    have : x.cps.toList.length = x.length := Array.length_toList
    rw [← this, h]; rfl
  unfold Txt.charAt seqIndex?
  simp only [hl]
  simp [← Array.getElem?_toList, h]
theorem item_zero {x : Str} {c : Nat} {r : List Nat} (h : x.cps.toList = c :: r) : Txt.item x 0 = ⟨#[c]⟩ := by
  unfold Txt.item; rw [charAt_zero h]; rfl
end Mine
namespace Mine
noncomputable abbrev hprg : Program := Challenge.rw_lo0003_01.row.prog
noncomputable def nthS : List Stmt → Nat → Option Stmt
  | [], _ => none
  | s :: _, 0 => some s
  | _ :: r, n + 1 => nthS r n
noncomputable def fP (n : Nat) : Arguments := match nthS hprg.main.body n with
  | some (.FunctionDef _ a _ _ _ _ _ _ _ _) => a
  | _ => default
noncomputable def fB (n : Nat) : FuncBody := match nthS hprg.main.body n with
  | some (.FunctionDef _ _ b _ _ _ _ _ _ _) => .stmts b
  | _ => .stmts []
noncomputable def fS (n : Nat) : Scope := match nthS hprg.main.body n with
  | some (.FunctionDef _ _ _ _ _ _ s _ _ _) => s
  | _ => default
noncomputable def pick (l : List Stmt) : List Nat → List Stmt
  | [] => []
  | i :: r => match nthS l i with | some s => s :: pick l r | none => pick l r
noncomputable def hd.view_39 : Program := { hprg with main := { hprg.main with body := pick hprg.main.body [1, 3, 4, 7, 8, 9, 10, 11, 12, 13, 14, 15, 16, 17] } }
set_option maxHeartbeats 4000000 in
noncomputable def hd.heap_39 (P : Params) : Frag :=
  [(2, { cls := Value.none, data := Data.dict #[] }),
    (3,
      { cls := Value.type "dict",
        data :=
          Data.dict
            #[{ hash := PyData.keyHash P (Str.ofString "__name__"),
                key := Value.str (Str.ofString "__name__") 165,
                val := Value.str (Str.ofString "law_lo0003_01") 286 },
              { hash := PyData.keyHash P (Str.ofString "__doc__"),
                key := Value.str (Str.ofString "__doc__") 166, val := Value.none },
              { hash := PyData.keyHash P (Str.ofString "__package__"),
                key := Value.str (Str.ofString "__package__") 167, val := Value.none },
              { hash := PyData.keyHash P (Str.ofString "__loader__"),
                key := Value.str (Str.ofString "__loader__") 168,
                val := Value.builtin "__main__.__loader__#opaque" },
              { hash := PyData.keyHash P (Str.ofString "__spec__"),
                key := Value.str (Str.ofString "__spec__") 169, val := Value.none },
              { hash := PyData.keyHash P (Str.ofString "__annotations__"),
                key := Value.str (Str.ofString "__annotations__") 170, val := Value.ref 6 },
              { hash := PyData.keyHash P (Str.ofString "__builtins__"),
                key := Value.str (Str.ofString "__builtins__") 171, val := Value.ref 4 },
              { hash := PyData.keyHash P (Str.ofString "__file__"),
                key := Value.str (Str.ofString "__file__") 173,
                val := Value.str (Str.ofString "/claim/cut.py") 172 },
              { hash := PyData.keyHash P (Str.ofString "__cached__"),
                key := Value.str (Str.ofString "__cached__") 174, val := Value.none },
              { hash := PyData.keyHash P (Str.ofString "_error"),
                key := Value.str (Str.ofString "_error") 195, val := Value.ref 21 },
              { hash := PyData.keyHash P (Str.ofString "_binary_ops"),
                key := Value.str (Str.ofString "_binary_ops") 209, val := Value.ref 31 },
              { hash := PyData.keyHash P (Str.ofString "_c2py_ops"),
                key := Value.str (Str.ofString "_c2py_ops") 265, val := Value.ref 77 },
              { hash := PyData.keyHash P (Str.ofString "_parse"),
                key := Value.str (Str.ofString "_parse") 285, val := Value.ref 85 },
              { hash := PyData.keyHash P (Str.ofString "_law_level"),
                key := Value.str (Str.ofString "_law_level") 296, val := Value.ref 92 },
              { hash := PyData.keyHash P (Str.ofString "_law_due"),
                key := Value.str (Str.ofString "_law_due") 303, val := Value.ref 99 },
              { hash := PyData.keyHash P (Str.ofString "_law_row"),
                key := Value.str (Str.ofString "_law_row") 317, val := Value.ref 106 },
              { hash := PyData.keyHash P (Str.ofString "_law_refusal"),
                key := Value.str (Str.ofString "_law_refusal") 324, val := Value.ref 113 },
              { hash := PyData.keyHash P (Str.ofString "_law_walk"),
                key := Value.str (Str.ofString "_law_walk") 337, val := Value.ref 120 },
              { hash := PyData.keyHash P (Str.ofString "_law_outside"),
                key := Value.str (Str.ofString "_law_outside") 347, val := Value.ref 127 },
              { hash := PyData.keyHash P (Str.ofString "_law_colon"),
                key := Value.str (Str.ofString "_law_colon") 357, val := Value.ref 134 },
              { hash := PyData.keyHash P (Str.ofString "_law_weakest"),
                key := Value.str (Str.ofString "_law_weakest") 368, val := Value.ref 141 },
              { hash := PyData.keyHash P (Str.ofString "_law_operand"),
                key := Value.str (Str.ofString "_law_operand") 377, val := Value.ref 148 },
              { hash := PyData.keyHash P (Str.ofString "_law_write"),
                key := Value.str (Str.ofString "_law_write") 383, val := Value.ref 153 },
              { hash := PyData.keyHash P (Str.ofString "law"),
                key := Value.str (Str.ofString "law") 401, val := Value.ref 160 }]
            24 }),
    (6, { cls := Value.type "dict", data := Data.dict #[] }),
    (15, { cls := Value.type "tuple", data := Data.seq #[] }),
    (17,
      { cls := Value.type "tuple", data := Data.seq #[Value.str (Str.ofString "value") 192] }),
    (18, { cls := Value.type "tuple", data := Data.seq #[] }),
    (20,
      { cls := Value.type "code",
        data :=
          Data.fields
            #[Value.str (Str.ofString "_error") 189, Value.str (Str.ofString "_error") 190,
              Value.str (Str.ofString "/claim/cut.py") 191, Value.int 2 0, Value.int 1 0,
              Value.int 0 0, Value.int 0 0, Value.int 3 0, Value.ref 15,
              Value.bool Bool.true, Value.int 181 0, Value.ref 16, Value.none,
              Value.ref 17, Value.ref 18, Value.ref 19, Value.int 193 0, Value.int 2 0,
              Value.str (Str.ofString "/claim/cut.py") 194] }),
    (21,
      { cls := Value.type "function",
        data :=
          Data.func
            { name := Str.ofString "_error", qualname := Str.ofString "_error", params := fP 1,
              body := fB 1, scope := fS 1, globals := 3, closure := [], defaults := Value.none,
              kwdefaults := Value.none, pyModule := Value.str (Str.ofString "cpy313.gettext") 187,
              code := Value.ref 20 } }),
    (31,
      { cls := Value.type "dict",
        data :=
          Data.dict
            #[{ hash := PyData.keyHash P (Str.ofString "||"),
                key := Value.str (Str.ofString "||") 196, val := Value.int 1 211 },
              { hash := PyData.keyHash P (Str.ofString "&&"),
                key := Value.str (Str.ofString "&&") 197, val := Value.int 2 216 },
              { hash := PyData.keyHash P (Str.ofString "=="),
                key := Value.str (Str.ofString "==") 198, val := Value.int 3 221 },
              { hash := PyData.keyHash P (Str.ofString "!="),
                key := Value.str (Str.ofString "!=") 199, val := Value.int 3 221 },
              { hash := PyData.keyHash P (Str.ofString "<"),
                key := Value.str (Str.ofString "<") 200, val := Value.int 4 228 },
              { hash := PyData.keyHash P (Str.ofString ">"),
                key := Value.str (Str.ofString ">") 201, val := Value.int 4 228 },
              { hash := PyData.keyHash P (Str.ofString "<="),
                key := Value.str (Str.ofString "<=") 202, val := Value.int 4 228 },
              { hash := PyData.keyHash P (Str.ofString ">="),
                key := Value.str (Str.ofString ">=") 203, val := Value.int 4 228 },
              { hash := PyData.keyHash P (Str.ofString "+"),
                key := Value.str (Str.ofString "+") 204, val := Value.int 5 239 },
              { hash := PyData.keyHash P (Str.ofString "-"),
                key := Value.str (Str.ofString "-") 205, val := Value.int 5 239 },
              { hash := PyData.keyHash P (Str.ofString "*"),
                key := Value.str (Str.ofString "*") 206, val := Value.int 6 246 },
              { hash := PyData.keyHash P (Str.ofString "/"),
                key := Value.str (Str.ofString "/") 207, val := Value.int 6 246 },
              { hash := PyData.keyHash P (Str.ofString "%"),
                key := Value.str (Str.ofString "%") 208, val := Value.int 6 246 }]
            13 }),
    (77,
      { cls := Value.type "dict",
        data :=
          Data.dict
            #[{ hash := PyData.keyHash P (Str.ofString "||"),
                key := Value.str (Str.ofString "||") 256,
                val := Value.str (Str.ofString "or") 257 },
              { hash := PyData.keyHash P (Str.ofString "&&"),
                key := Value.str (Str.ofString "&&") 258,
                val := Value.str (Str.ofString "and") 259 },
              { hash := PyData.keyHash P (Str.ofString "/"),
                key := Value.str (Str.ofString "/") 260,
                val := Value.str (Str.ofString "//") 261 }]
            3 }),
    (78, { cls := Value.type "tuple", data := Data.seq #[Value.int (-1) 267] }),
    (79, { cls := Value.type "tuple", data := Data.seq #[] }),
    (81,
      { cls := Value.type "tuple",
        data :=
          Data.seq
            #[Value.str (Str.ofString "tokens") 271, Value.str (Str.ofString "priority") 272,
              Value.str (Str.ofString "result") 273, Value.str (Str.ofString "nexttok") 274,
              Value.str (Str.ofString "sub") 275, Value.str (Str.ofString "value") 276,
              Value.str (Str.ofString "j") 277, Value.str (Str.ofString "i") 278,
              Value.str (Str.ofString "op") 279, Value.str (Str.ofString "right") 280,
              Value.str (Str.ofString "if_true") 281,
              Value.str (Str.ofString "if_false") 282] }),
    (82, { cls := Value.type "tuple", data := Data.seq #[] }),
    (84,
      { cls := Value.type "code",
        data :=
          Data.fields
            #[Value.str (Str.ofString "_parse") 268, Value.str (Str.ofString "_parse") 269,
              Value.str (Str.ofString "/claim/cut.py") 270, Value.int 10 0, Value.int 2 0,
              Value.int 0 0, Value.int 0 0, Value.int 3 0, Value.ref 79,
              Value.bool Bool.true, Value.int 181 0, Value.ref 80, Value.none,
              Value.ref 81, Value.ref 82, Value.ref 83, Value.int 283 0, Value.int 10 0,
              Value.str (Str.ofString "/claim/cut.py") 284] }),
    (85,
      { cls := Value.type "function",
        data :=
          Data.func
            { name := Str.ofString "_parse", qualname := Str.ofString "_parse", params := fP 5,
              body := fB 5, scope := fS 5, globals := 3, closure := [], defaults := Value.ref 78,
              kwdefaults := Value.none, pyModule := Value.str (Str.ofString "cpy313.gettext") 187,
              code := Value.ref 84 } }),
    (86, { cls := Value.type "tuple", data := Data.seq #[] }),
    (88,
      { cls := Value.type "tuple",
        data :=
          Data.seq
            #[Value.str (Str.ofString "token") 291, Value.str (Str.ofString "tiers") 292,
              Value.str (Str.ofString "k") 293] }),
    (89, { cls := Value.type "tuple", data := Data.seq #[] }),
    (91,
      { cls := Value.type "code",
        data :=
          Data.fields
            #[Value.str (Str.ofString "_law_level") 288,
              Value.str (Str.ofString "_law_level") 289,
              Value.str (Str.ofString "/claim/cut.py") 290, Value.int 53 0, Value.int 1 0,
              Value.int 0 0, Value.int 0 0, Value.int 3 0, Value.ref 86,
              Value.bool Bool.true, Value.int 181 0, Value.ref 87, Value.none,
              Value.ref 88, Value.ref 89, Value.ref 90, Value.int 294 0, Value.int 53 0,
              Value.str (Str.ofString "/claim/cut.py") 295] }),
    (92,
      { cls := Value.type "function",
        data :=
          Data.func
            { name := Str.ofString "_law_level", qualname := Str.ofString "_law_level", params := fP 7,
              body := fB 7, scope := fS 7, globals := 3, closure := [], defaults := Value.none,
              kwdefaults := Value.none, pyModule := Value.str (Str.ofString "law_lo0003_01") 286,
              code := Value.ref 91 } }),
    (93, { cls := Value.type "tuple", data := Data.seq #[] }),
    (95, { cls := Value.type "tuple", data := Data.seq #[Value.str (Str.ofString "row") 300] }),
    (96, { cls := Value.type "tuple", data := Data.seq #[] }),
    (98,
      { cls := Value.type "code",
        data :=
          Data.fields
            #[Value.str (Str.ofString "_law_due") 297, Value.str (Str.ofString "_law_due") 298,
              Value.str (Str.ofString "/claim/cut.py") 299, Value.int 59 0, Value.int 1 0,
              Value.int 0 0, Value.int 0 0, Value.int 3 0, Value.ref 93,
              Value.bool Bool.true, Value.int 181 0, Value.ref 94, Value.none,
              Value.ref 95, Value.ref 96, Value.ref 97, Value.int 301 0, Value.int 59 0,
              Value.str (Str.ofString "/claim/cut.py") 302] }),
    (99,
      { cls := Value.type "function",
        data :=
          Data.func
            { name := Str.ofString "_law_due", qualname := Str.ofString "_law_due", params := fP 8,
              body := fB 8, scope := fS 8, globals := 3, closure := [], defaults := Value.none,
              kwdefaults := Value.none, pyModule := Value.str (Str.ofString "law_lo0003_01") 286,
              code := Value.ref 98 } }),
    (100, { cls := Value.type "tuple", data := Data.seq #[] }),
    (102,
      { cls := Value.type "tuple",
        data :=
          Data.seq
            #[Value.str (Str.ofString "cells") 307, Value.str (Str.ofString "operations") 308,
              Value.str (Str.ofString "row") 309, Value.str (Str.ofString "opened") 310,
              Value.str (Str.ofString "x") 311, Value.str (Str.ofString "kind") 312,
              Value.str (Str.ofString "token") 313, Value.str (Str.ofString "size") 314] }),
    (103, { cls := Value.type "tuple", data := Data.seq #[] }),
    (105,
      { cls := Value.type "code",
        data :=
          Data.fields
            #[Value.str (Str.ofString "_law_row") 304, Value.str (Str.ofString "_law_row") 305,
              Value.str (Str.ofString "/claim/cut.py") 306, Value.int 63 0, Value.int 1 0,
              Value.int 0 0, Value.int 0 0, Value.int 3 0, Value.ref 100,
              Value.bool Bool.true, Value.int 181 0, Value.ref 101, Value.none,
              Value.ref 102, Value.ref 103, Value.ref 104, Value.int 315 0,
              Value.int 63 0, Value.str (Str.ofString "/claim/cut.py") 316] }),
    (106,
      { cls := Value.type "function",
        data :=
          Data.func
            { name := Str.ofString "_law_row", qualname := Str.ofString "_law_row", params := fP 9,
              body := fB 9, scope := fS 9, globals := 3, closure := [], defaults := Value.none,
              kwdefaults := Value.none, pyModule := Value.str (Str.ofString "law_lo0003_01") 286,
              code := Value.ref 105 } }),
    (107, { cls := Value.type "tuple", data := Data.seq #[] }),
    (109,
      { cls := Value.type "tuple", data := Data.seq #[Value.str (Str.ofString "token") 321] }),
    (110, { cls := Value.type "tuple", data := Data.seq #[] }),
    (112,
      { cls := Value.type "code",
        data :=
          Data.fields
            #[Value.str (Str.ofString "_law_refusal") 318,
              Value.str (Str.ofString "_law_refusal") 319,
              Value.str (Str.ofString "/claim/cut.py") 320, Value.int 112 0, Value.int 1 0,
              Value.int 0 0, Value.int 0 0, Value.int 3 0, Value.ref 107,
              Value.bool Bool.true, Value.int 181 0, Value.ref 108, Value.none,
              Value.ref 109, Value.ref 110, Value.ref 111, Value.int 322 0,
              Value.int 112 0, Value.str (Str.ofString "/claim/cut.py") 323] }),
    (113,
      { cls := Value.type "function",
        data :=
          Data.func
            { name := Str.ofString "_law_refusal", qualname := Str.ofString "_law_refusal",
              params := fP 10, body := fB 10, scope := fS 10, globals := 3, closure := [],
              defaults := Value.none, kwdefaults := Value.none,
              pyModule := Value.str (Str.ofString "law_lo0003_01") 286, code := Value.ref 112 } }),
    (114, { cls := Value.type "tuple", data := Data.seq #[] }),
    (116,
      { cls := Value.type "tuple",
        data :=
          Data.seq
            #[Value.str (Str.ofString "row") 328, Value.str (Str.ofString "priority") 329,
              Value.str (Str.ofString "opened") 330, Value.str (Str.ofString "due") 331,
              Value.str (Str.ofString "at") 332, Value.str (Str.ofString "token") 333,
              Value.str (Str.ofString "last") 334] }),
    (117, { cls := Value.type "tuple", data := Data.seq #[] }),
    (119,
      { cls := Value.type "code",
        data :=
          Data.fields
            #[Value.str (Str.ofString "_law_walk") 325,
              Value.str (Str.ofString "_law_walk") 326,
              Value.str (Str.ofString "/claim/cut.py") 327, Value.int 116 0, Value.int 2 0,
              Value.int 0 0, Value.int 0 0, Value.int 3 0, Value.ref 114,
              Value.bool Bool.true, Value.int 181 0, Value.ref 115, Value.none,
              Value.ref 116, Value.ref 117, Value.ref 118, Value.int 335 0,
              Value.int 116 0, Value.str (Str.ofString "/claim/cut.py") 336] }),
    (120,
      { cls := Value.type "function",
        data :=
          Data.func
            { name := Str.ofString "_law_walk", qualname := Str.ofString "_law_walk", params := fP 11,
              body := fB 11, scope := fS 11, globals := 3, closure := [], defaults := Value.none,
              kwdefaults := Value.none, pyModule := Value.str (Str.ofString "law_lo0003_01") 286,
              code := Value.ref 119 } }),
    (121, { cls := Value.type "tuple", data := Data.seq #[] }),
    (123,
      { cls := Value.type "tuple",
        data :=
          Data.seq
            #[Value.str (Str.ofString "part") 341, Value.str (Str.ofString "depth") 342,
              Value.str (Str.ofString "places") 343, Value.str (Str.ofString "at") 344] }),
    (124, { cls := Value.type "tuple", data := Data.seq #[] }),
    (126,
      { cls := Value.type "code",
        data :=
          Data.fields
            #[Value.str (Str.ofString "_law_outside") 338,
              Value.str (Str.ofString "_law_outside") 339,
              Value.str (Str.ofString "/claim/cut.py") 340, Value.int 148 0, Value.int 1 0,
              Value.int 0 0, Value.int 0 0, Value.int 3 0, Value.ref 121,
              Value.bool Bool.true, Value.int 181 0, Value.ref 122, Value.none,
              Value.ref 123, Value.ref 124, Value.ref 125, Value.int 345 0,
              Value.int 148 0, Value.str (Str.ofString "/claim/cut.py") 346] }),
    (127,
      { cls := Value.type "function",
        data :=
          Data.func
            { name := Str.ofString "_law_outside", qualname := Str.ofString "_law_outside",
              params := fP 12, body := fB 12, scope := fS 12, globals := 3, closure := [],
              defaults := Value.none, kwdefaults := Value.none,
              pyModule := Value.str (Str.ofString "law_lo0003_01") 286, code := Value.ref 126 } }),
    (128, { cls := Value.type "tuple", data := Data.seq #[] }),
    (130,
      { cls := Value.type "tuple",
        data :=
          Data.seq
            #[Value.str (Str.ofString "part") 351, Value.str (Str.ofString "places") 352,
              Value.str (Str.ofString "waiting") 353, Value.str (Str.ofString "at") 354] }),
    (131, { cls := Value.type "tuple", data := Data.seq #[] }),
    (133,
      { cls := Value.type "code",
        data :=
          Data.fields
            #[Value.str (Str.ofString "_law_colon") 348,
              Value.str (Str.ofString "_law_colon") 349,
              Value.str (Str.ofString "/claim/cut.py") 350, Value.int 159 0, Value.int 2 0,
              Value.int 0 0, Value.int 0 0, Value.int 3 0, Value.ref 128,
              Value.bool Bool.true, Value.int 181 0, Value.ref 129, Value.none,
              Value.ref 130, Value.ref 131, Value.ref 132, Value.int 355 0,
              Value.int 159 0, Value.str (Str.ofString "/claim/cut.py") 356] }),
    (134,
      { cls := Value.type "function",
        data :=
          Data.func
            { name := Str.ofString "_law_colon", qualname := Str.ofString "_law_colon",
              params := fP 13, body := fB 13, scope := fS 13, globals := 3, closure := [],
              defaults := Value.none, kwdefaults := Value.none,
              pyModule := Value.str (Str.ofString "law_lo0003_01") 286, code := Value.ref 133 } }),
    (135, { cls := Value.type "tuple", data := Data.seq #[] }),
    (137,
      { cls := Value.type "tuple",
        data :=
          Data.seq
            #[Value.str (Str.ofString "part") 361, Value.str (Str.ofString "weakest") 362,
              Value.str (Str.ofString "where") 363, Value.str (Str.ofString "at") 364,
              Value.str (Str.ofString "level") 365] }),
    (138, { cls := Value.type "tuple", data := Data.seq #[] }),
    (140,
      { cls := Value.type "code",
        data :=
          Data.fields
            #[Value.str (Str.ofString "_law_weakest") 358,
              Value.str (Str.ofString "_law_weakest") 359,
              Value.str (Str.ofString "/claim/cut.py") 360, Value.int 169 0, Value.int 1 0,
              Value.int 0 0, Value.int 0 0, Value.int 3 0, Value.ref 135,
              Value.bool Bool.true, Value.int 181 0, Value.ref 136, Value.none,
              Value.ref 137, Value.ref 138, Value.ref 139, Value.int 366 0,
              Value.int 169 0, Value.str (Str.ofString "/claim/cut.py") 367] }),
    (141,
      { cls := Value.type "function",
        data :=
          Data.func
            { name := Str.ofString "_law_weakest", qualname := Str.ofString "_law_weakest",
              params := fP 14, body := fB 14, scope := fS 14, globals := 3, closure := [],
              defaults := Value.none, kwdefaults := Value.none,
              pyModule := Value.str (Str.ofString "law_lo0003_01") 286, code := Value.ref 140 } }),
    (142, { cls := Value.type "tuple", data := Data.seq #[] }),
    (144,
      { cls := Value.type "tuple",
        data :=
          Data.seq
            #[Value.str (Str.ofString "part") 372, Value.str (Str.ofString "nots") 373,
              Value.str (Str.ofString "core") 374] }),
    (145, { cls := Value.type "tuple", data := Data.seq #[] }),
    (147,
      { cls := Value.type "code",
        data :=
          Data.fields
            #[Value.str (Str.ofString "_law_operand") 369,
              Value.str (Str.ofString "_law_operand") 370,
              Value.str (Str.ofString "/claim/cut.py") 371, Value.int 178 0, Value.int 1 0,
              Value.int 0 0, Value.int 0 0, Value.int 3 0, Value.ref 142,
              Value.bool Bool.true, Value.int 181 0, Value.ref 143, Value.none,
              Value.ref 144, Value.ref 145, Value.ref 146, Value.int 375 0,
              Value.int 178 0, Value.str (Str.ofString "/claim/cut.py") 376] }),
    (148,
      { cls := Value.type "function",
        data :=
          Data.func
            { name := Str.ofString "_law_operand", qualname := Str.ofString "_law_operand",
              params := fP 15, body := fB 15, scope := fS 15, globals := 3, closure := [],
              defaults := Value.none, kwdefaults := Value.none,
              pyModule := Value.str (Str.ofString "law_lo0003_01") 286, code := Value.ref 147 } }),
    (149, { cls := Value.type "tuple", data := Data.seq #[] }),
    (152,
      { cls := Value.type "code",
        data :=
          Data.fields
            #[Value.str (Str.ofString "_law_write") 378,
              Value.str (Str.ofString "_law_write") 379,
              Value.str (Str.ofString "/claim/cut.py") 380, Value.int 188 0, Value.int 2 0,
              Value.int 0 0, Value.int 0 0, Value.int 3 0, Value.ref 149,
              Value.bool Bool.true, Value.int 181 0, Value.ref 150, Value.none,
              Value.none, Value.none, Value.ref 151, Value.int 381 0, Value.int 188 0,
              Value.str (Str.ofString "/claim/cut.py") 382] }),
    (153,
      { cls := Value.type "function",
        data :=
          Data.func
            { name := Str.ofString "_law_write", qualname := Str.ofString "_law_write",
              params := fP 16, body := fB 16, scope := fS 16, globals := 3, closure := [],
              defaults := Value.none, kwdefaults := Value.none,
              pyModule := Value.str (Str.ofString "law_lo0003_01") 286, code := Value.ref 152 } }),
    (154, { cls := Value.type "tuple", data := Data.seq #[] }),
    (156,
      { cls := Value.type "tuple",
        data :=
          Data.seq
            #[Value.str (Str.ofString "script") 387, Value.str (Str.ofString "cells") 388,
              Value.str (Str.ofString "left") 389, Value.str (Str.ofString "calls") 390,
              Value.str (Str.ofString "k") 391, Value.str (Str.ofString "priority") 392,
              Value.str (Str.ofString "at") 393, Value.str (Str.ofString "words") 394,
              Value.str (Str.ofString "wanted") 395, Value.str (Str.ofString "source") 396,
              Value.str (Str.ofString "told") 397, Value.str (Str.ofString "error") 398] }),
    (157, { cls := Value.type "tuple", data := Data.seq #[] }),
    (159,
      { cls := Value.type "code",
        data :=
          Data.fields
            #[Value.str (Str.ofString "law") 384, Value.str (Str.ofString "law") 385,
              Value.str (Str.ofString "/claim/cut.py") 386, Value.int 211 0, Value.int 1 0,
              Value.int 0 0, Value.int 0 0, Value.int 3 0, Value.ref 154,
              Value.bool Bool.true, Value.int 181 0, Value.ref 155, Value.none,
              Value.ref 156, Value.ref 157, Value.ref 158, Value.int 399 0,
              Value.int 211 0, Value.str (Str.ofString "/claim/cut.py") 400] }),
    (160,
      { cls := Value.type "function",
        data :=
          Data.func
            { name := Str.ofString "law", qualname := Str.ofString "law", params := fP 17,
              body := fB 17, scope := fS 17, globals := 3, closure := [], defaults := Value.none,
              kwdefaults := Value.none, pyModule := Value.str (Str.ofString "law_lo0003_01") 286,
              code := Value.ref 159 } })]
noncomputable def hLoose : List Str := [Str.ofString "_binary_ops", Str.ofString "_c2py_ops", Str.ofString "_parse"]
noncomputable def hAs : List Addr := [2, 3, 6, 15, 17, 18, 20, 21, 31, 77, 78, 79, 81, 82, 84, 85, 86, 88, 89, 91, 92, 93, 95, 96, 98, 99, 100, 102, 103, 105, 106, 107, 109, 110, 112, 113, 114, 116, 117, 119, 120, 121, 123, 124, 126, 127, 128, 130, 131, 133, 134, 135, 137, 138, 140, 141, 142, 144, 145, 147, 148, 149, 152, 153, 154, 156, 157, 159, 160]
theorem hAs_eq : ∀ P, hAs = (hd.heap_39 P).map (·.1) := fun _ => rfl
noncomputable abbrev hHook : Hook := kHook hd.heap_39 hAs hAs_eq
noncomputable abbrev hX : Shared → Bool := fun s => xlAt hd.view_39 [] s && recOk Challenge.rw_lo0003_01.row.records s
noncomputable def hd.h0 (P : Params) : Heap := ⟨⟨[boot_o_0 P, boot_o_1 P, boot_o_2 P, boot_o_3 P, boot_o_4 P, boot_o_5 P, boot_o_6 P, boot_o_7 P, boot_o_8 P, boot_o_9 P, boot_o_10 P]⟩, { }⟩
noncomputable def hd.g0 : Array GenState := #[]
noncomputable def hd.d0 : Drawn := { }
noncomputable def hd.s0 (w : World) (os : OsState) : Shared := ⟨hd.h0 w.params, hd.g0, hd.d0, 181, os⟩
noncomputable def hd.o1 (P : Params) : Obj :=
{ cls := Value.type "tuple", data := Data.seq #[] }
noncomputable def hd.o2 (P : Params) : Obj :=
{ cls := Value.none, data := Data.fields #[] }
noncomputable def hd.o3 (P : Params) : Obj :=
{ cls := Value.type "code",
  data :=
    Data.fields
      #[Value.str (Str.ofString "<module>") 182, Value.str (Str.ofString "<module>") 183,
        Value.str (Str.ofString "/claim/cut.py") 184, Value.int 1 0, Value.int 0 0,
        Value.int 0 0, Value.int 0 0, Value.int 0 0, Value.ref 11, Value.bool Bool.false,
        Value.int 181 0, Value.ref 12, Value.none, Value.none, Value.none,
        Value.none, Value.int 185 0, Value.int 1 0,
        Value.str (Str.ofString "/claim/cut.py") 186] }
noncomputable def hd.o4 (P : Params) : Obj :=
{ cls := Value.type "frame",
  slots :=
    #[Option.some (Value.ref 13), Option.some (Value.ref 3), Option.some (Value.ref 3), Option.none,
      Option.some (Value.str (Str.ofString "__main__") 164), Option.none, Option.some (Value.ref 0)] }
noncomputable def hd.ha (P : Params) : Heap := ⟨⟨[boot_o_0 P, boot_o_1 P, boot_o_2 P, boot_o_3 P, boot_o_4 P, boot_o_5 P, boot_o_6 P, boot_o_7 P, boot_o_8 P, boot_o_9 P, boot_o_10 P, hd.o1 P, hd.o2 P, hd.o3 P, hd.o4 P]⟩, { }⟩
noncomputable def hd.ga : Array GenState := #[]
noncomputable def hd.da : Drawn := { }
noncomputable def hd.sa (w : World) (os : OsState) : Shared := ⟨hd.ha w.params, hd.ga, hd.da, 187, os⟩
noncomputable def hd.trb (P : Params) : BT := (.node (boot_o_0 P) (.node (boot_o_1 P) (.node (boot_o_3 P) (.node (boot_o_7 P) .nil .nil) (.node (hd.o1 P) .nil .nil)) (.node (boot_o_5 P) (.node (boot_o_9 P) .nil .nil) (.node (hd.o3 P) .nil .nil))) (.node (boot_o_2 P) (.node (boot_o_4 P) (.node (boot_o_8 P) .nil .nil) (.node (hd.o2 P) .nil .nil)) (.node (boot_o_6 P) (.node (boot_o_10 P) .nil .nil) (.node (hd.o4 P) .nil .nil))))
noncomputable def hd.sb (w : World) (os : OsState) : SharedT := ⟨hd.trb w.params, 15, { }, #[], { }, 187, os⟩
noncomputable def hd.o5 (P : Params) : Obj :=
{ cls := Value.type "dict",
  data :=
    Data.dict
      #[{ hash := PyData.keyHash P (Str.ofString "__name__"),
          key := Value.str (Str.ofString "__name__") 165,
          val := Value.str (Str.ofString "cpy313.gettext") 187 },
        { hash := PyData.keyHash P (Str.ofString "__doc__"),
          key := Value.str (Str.ofString "__doc__") 166, val := Value.none },
        { hash := PyData.keyHash P (Str.ofString "__package__"),
          key := Value.str (Str.ofString "__package__") 167, val := Value.none },
        { hash := PyData.keyHash P (Str.ofString "__loader__"),
          key := Value.str (Str.ofString "__loader__") 168,
          val := Value.builtin "__main__.__loader__#opaque" },
        { hash := PyData.keyHash P (Str.ofString "__spec__"),
          key := Value.str (Str.ofString "__spec__") 169, val := Value.none },
        { hash := PyData.keyHash P (Str.ofString "__annotations__"),
          key := Value.str (Str.ofString "__annotations__") 170, val := Value.ref 6 },
        { hash := PyData.keyHash P (Str.ofString "__builtins__"),
          key := Value.str (Str.ofString "__builtins__") 171, val := Value.ref 4 },
        { hash := PyData.keyHash P (Str.ofString "__file__"),
          key := Value.str (Str.ofString "__file__") 173,
          val := Value.str (Str.ofString "/claim/cut.py") 172 },
        { hash := PyData.keyHash P (Str.ofString "__cached__"),
          key := Value.str (Str.ofString "__cached__") 174, val := Value.none },
        { hash := PyData.keyHash P (Str.ofString "_error"),
          key := Value.str (Str.ofString "_error") 195, val := Value.ref 21 },
        { hash := PyData.keyHash P (Str.ofString "_binary_ops"),
          key := Value.str (Str.ofString "_binary_ops") 209, val := Value.ref 28 }]
      11 }
noncomputable def hd.o6 (P : Params) : Obj :=
{ cls := Value.none, data := Data.fields #[Value.int 2 0, Value.int 0 0, Value.ref 20] }
noncomputable def hd.o7 (P : Params) : Obj :=
{ cls := Value.type "tuple", data := Data.seq #[] }
noncomputable def hd.o8 (P : Params) : Obj :=
{ cls := Value.none, data := Data.fields #[] }
noncomputable def hd.o9 (P : Params) : Obj :=
{ cls := Value.type "tuple", data := Data.seq #[Value.str (Str.ofString "value") 192] }
noncomputable def hd.o10 (P : Params) : Obj :=
{ cls := Value.type "tuple", data := Data.seq #[] }
noncomputable def hd.o11 (P : Params) : Obj :=
{ cls := Value.none,
  data :=
    Data.func
      { name := Str.ofString "_error", qualname := Str.ofString "_error", params := fP 1,
        body := fB 1, scope := fS 1, globals := 0, closure := [], defaults := Value.none,
        kwdefaults := Value.none } }
noncomputable def hd.o12 (P : Params) : Obj :=
{ cls := Value.type "code",
  data :=
    Data.fields
      #[Value.str (Str.ofString "_error") 189, Value.str (Str.ofString "_error") 190,
        Value.str (Str.ofString "/claim/cut.py") 191, Value.int 2 0, Value.int 1 0,
        Value.int 0 0, Value.int 0 0, Value.int 3 0, Value.ref 15, Value.bool Bool.true,
        Value.int 181 0, Value.ref 16, Value.none, Value.ref 17, Value.ref 18,
        Value.ref 19, Value.int 193 0, Value.int 2 0,
        Value.str (Str.ofString "/claim/cut.py") 194] }
noncomputable def hd.o13 (P : Params) : Obj :=
{ cls := Value.type "function",
  data :=
    Data.func
      { name := Str.ofString "_error", qualname := Str.ofString "_error", params := fP 1,
        body := fB 1, scope := fS 1, globals := 3, closure := [], defaults := Value.none,
        kwdefaults := Value.none, pyModule := Value.str (Str.ofString "cpy313.gettext") 187,
        code := Value.ref 20 } }
noncomputable def hd.o14 (P : Params) : Obj :=
{ cls := Value.type "tuple", data := Data.seq #[Value.str (Str.ofString "||") 196] }
noncomputable def hd.o15 (P : Params) : Obj :=
{ cls := Value.type "tuple", data := Data.seq #[Value.str (Str.ofString "&&") 197] }
noncomputable def hd.o16 (P : Params) : Obj :=
{ cls := Value.type "tuple",
  data :=
    Data.seq #[Value.str (Str.ofString "==") 198, Value.str (Str.ofString "!=") 199] }
noncomputable def hd.o17 (P : Params) : Obj :=
{ cls := Value.type "tuple",
  data :=
    Data.seq
      #[Value.str (Str.ofString "<") 200, Value.str (Str.ofString ">") 201,
        Value.str (Str.ofString "<=") 202, Value.str (Str.ofString ">=") 203] }
noncomputable def hd.o18 (P : Params) : Obj :=
{ cls := Value.type "tuple",
  data := Data.seq #[Value.str (Str.ofString "+") 204, Value.str (Str.ofString "-") 205] }
noncomputable def hd.o19 (P : Params) : Obj :=
{ cls := Value.type "tuple",
  data :=
    Data.seq
      #[Value.str (Str.ofString "*") 206, Value.str (Str.ofString "/") 207,
        Value.str (Str.ofString "%") 208] }
noncomputable def hd.o20 (P : Params) : Obj :=
{ cls := Value.type "tuple",
  data :=
    Data.seq
      #[Value.ref 22, Value.ref 23, Value.ref 24, Value.ref 25, Value.ref 26,
        Value.ref 27] }
noncomputable def hd.tr1 (P : Params) : BT := (.node (boot_o_0 P) (.node (boot_o_1 P) (.node (hd.o5 P) (.node (boot_o_7 P) (.node (hd.o7 P) .nil .nil) (.node (hd.o15 P) .nil .nil)) (.node (hd.o1 P) (.node (hd.o11 P) .nil .nil) (.node (hd.o19 P) .nil .nil))) (.node (boot_o_5 P) (.node (boot_o_9 P) (.node (hd.o9 P) .nil .nil) (.node (hd.o17 P) .nil .nil)) (.node (hd.o3 P) (.node (hd.o13 P) .nil .nil) .nil))) (.node (boot_o_2 P) (.node (boot_o_4 P) (.node (boot_o_8 P) (.node (hd.o8 P) .nil .nil) (.node (hd.o16 P) .nil .nil)) (.node (hd.o6 P) (.node (hd.o12 P) .nil .nil) (.node (hd.o20 P) .nil .nil))) (.node (boot_o_6 P) (.node (boot_o_10 P) (.node (hd.o10 P) .nil .nil) (.node (hd.o18 P) .nil .nil)) (.node (hd.o4 P) (.node (hd.o14 P) .nil .nil) .nil))))
noncomputable def hd.s1 (w : World) (os : OsState) : SharedT := ⟨hd.tr1 w.params, 29, { }, #[], { }, 210, os⟩
noncomputable def hd.o21 (P : Params) : Obj :=
{ cls := Value.type "dict",
  data :=
    Data.dict
      #[{ hash := PyData.keyHash P (Str.ofString "__name__"),
          key := Value.str (Str.ofString "__name__") 165,
          val := Value.str (Str.ofString "cpy313.gettext") 187 },
        { hash := PyData.keyHash P (Str.ofString "__doc__"),
          key := Value.str (Str.ofString "__doc__") 166, val := Value.none },
        { hash := PyData.keyHash P (Str.ofString "__package__"),
          key := Value.str (Str.ofString "__package__") 167, val := Value.none },
        { hash := PyData.keyHash P (Str.ofString "__loader__"),
          key := Value.str (Str.ofString "__loader__") 168,
          val := Value.builtin "__main__.__loader__#opaque" },
        { hash := PyData.keyHash P (Str.ofString "__spec__"),
          key := Value.str (Str.ofString "__spec__") 169, val := Value.none },
        { hash := PyData.keyHash P (Str.ofString "__annotations__"),
          key := Value.str (Str.ofString "__annotations__") 170, val := Value.ref 6 },
        { hash := PyData.keyHash P (Str.ofString "__builtins__"),
          key := Value.str (Str.ofString "__builtins__") 171, val := Value.ref 4 },
        { hash := PyData.keyHash P (Str.ofString "__file__"),
          key := Value.str (Str.ofString "__file__") 173,
          val := Value.str (Str.ofString "/claim/cut.py") 172 },
        { hash := PyData.keyHash P (Str.ofString "__cached__"),
          key := Value.str (Str.ofString "__cached__") 174, val := Value.none },
        { hash := PyData.keyHash P (Str.ofString "_error"),
          key := Value.str (Str.ofString "_error") 195, val := Value.ref 21 },
        { hash := PyData.keyHash P (Str.ofString "_binary_ops"),
          key := Value.str (Str.ofString "_binary_ops") 209, val := Value.ref 31 }]
      11 }
noncomputable def hd.o22 (P : Params) : Obj :=
{ cls := Value.type "tuple_iterator", data := Data.fields #[Value.none, Value.int 6 0] }
noncomputable def hd.o23 (P : Params) : Obj :=
{ cls := Value.type "enumerate",
  data :=
    Data.fields
      #[Value.none, Value.bool Bool.false, Value.ref 29, Value.int 7 0, Value.none,
        Value.ref 27] }
noncomputable def hd.o24 (P : Params) : Obj :=
{ cls := Value.type "dict",
  data :=
    Data.dict
      #[{ hash := PyData.keyHash P (Str.ofString "||"),
          key := Value.str (Str.ofString "||") 196, val := Value.int 1 211 },
        { hash := PyData.keyHash P (Str.ofString "&&"),
          key := Value.str (Str.ofString "&&") 197, val := Value.int 2 216 },
        { hash := PyData.keyHash P (Str.ofString "=="),
          key := Value.str (Str.ofString "==") 198, val := Value.int 3 221 },
        { hash := PyData.keyHash P (Str.ofString "!="),
          key := Value.str (Str.ofString "!=") 199, val := Value.int 3 221 },
        { hash := PyData.keyHash P (Str.ofString "<"), key := Value.str (Str.ofString "<") 200,
          val := Value.int 4 228 },
        { hash := PyData.keyHash P (Str.ofString ">"), key := Value.str (Str.ofString ">") 201,
          val := Value.int 4 228 },
        { hash := PyData.keyHash P (Str.ofString "<="),
          key := Value.str (Str.ofString "<=") 202, val := Value.int 4 228 },
        { hash := PyData.keyHash P (Str.ofString ">="),
          key := Value.str (Str.ofString ">=") 203, val := Value.int 4 228 },
        { hash := PyData.keyHash P (Str.ofString "+"), key := Value.str (Str.ofString "+") 204,
          val := Value.int 5 239 },
        { hash := PyData.keyHash P (Str.ofString "-"), key := Value.str (Str.ofString "-") 205,
          val := Value.int 5 239 },
        { hash := PyData.keyHash P (Str.ofString "*"), key := Value.str (Str.ofString "*") 206,
          val := Value.int 6 246 },
        { hash := PyData.keyHash P (Str.ofString "/"), key := Value.str (Str.ofString "/") 207,
          val := Value.int 6 246 },
        { hash := PyData.keyHash P (Str.ofString "%"), key := Value.str (Str.ofString "%") 208,
          val := Value.int 6 246 }]
      13 }
noncomputable def hd.o25 (P : Params) : Obj :=
{ cls := Value.type "dict", data := Data.dict #[] 6 }
noncomputable def hd.o26 (P : Params) : Obj :=
{ cls := Value.type "tuple", data := Data.seq #[Value.int 1 211, Value.ref 22] }
noncomputable def hd.o27 (P : Params) : Obj :=
{ cls := Value.type "tuple_iterator", data := Data.fields #[Value.none, Value.int 2 0] }
noncomputable def hd.o28 (P : Params) : Obj :=
{ cls := Value.type "tuple", data := Data.seq #[] }
noncomputable def hd.o29 (P : Params) : Obj :=
{ cls := Value.type "StopIteration",
  data :=
    Data.fields
      #[Value.ref 35, Value.none, Value.none, Value.none, Value.bool Bool.false,
        Value.none] }
noncomputable def hd.o30 (P : Params) : Obj :=
{ cls := Value.type "tuple_iterator", data := Data.fields #[Value.none, Value.int 1 0] }
noncomputable def hd.o31 (P : Params) : Obj :=
{ cls := Value.type "tuple", data := Data.seq #[] }
noncomputable def hd.o32 (P : Params) : Obj :=
{ cls := Value.type "StopIteration",
  data :=
    Data.fields
      #[Value.ref 38, Value.none, Value.none, Value.none, Value.bool Bool.false,
        Value.none] }
noncomputable def hd.o33 (P : Params) : Obj :=
{ cls := Value.type "tuple", data := Data.seq #[Value.int 2 216, Value.ref 23] }
noncomputable def hd.o34 (P : Params) : Obj :=
{ cls := Value.type "tuple_iterator", data := Data.fields #[Value.none, Value.int 2 0] }
noncomputable def hd.o35 (P : Params) : Obj :=
{ cls := Value.type "tuple", data := Data.seq #[] }
noncomputable def hd.o36 (P : Params) : Obj :=
{ cls := Value.type "StopIteration",
  data :=
    Data.fields
      #[Value.ref 42, Value.none, Value.none, Value.none, Value.bool Bool.false,
        Value.none] }
noncomputable def hd.o37 (P : Params) : Obj :=
{ cls := Value.type "tuple_iterator", data := Data.fields #[Value.none, Value.int 1 0] }
noncomputable def hd.o38 (P : Params) : Obj :=
{ cls := Value.type "tuple", data := Data.seq #[] }
noncomputable def hd.o39 (P : Params) : Obj :=
{ cls := Value.type "StopIteration",
  data :=
    Data.fields
      #[Value.ref 45, Value.none, Value.none, Value.none, Value.bool Bool.false,
        Value.none] }
noncomputable def hd.o40 (P : Params) : Obj :=
{ cls := Value.type "tuple", data := Data.seq #[Value.int 3 221, Value.ref 24] }
noncomputable def hd.o41 (P : Params) : Obj :=
{ cls := Value.type "tuple_iterator", data := Data.fields #[Value.none, Value.int 2 0] }
noncomputable def hd.o42 (P : Params) : Obj :=
{ cls := Value.type "tuple", data := Data.seq #[] }
noncomputable def hd.o43 (P : Params) : Obj :=
{ cls := Value.type "StopIteration",
  data :=
    Data.fields
      #[Value.ref 49, Value.none, Value.none, Value.none, Value.bool Bool.false,
        Value.none] }
noncomputable def hd.o44 (P : Params) : Obj :=
{ cls := Value.type "tuple_iterator", data := Data.fields #[Value.none, Value.int 2 0] }
noncomputable def hd.o45 (P : Params) : Obj :=
{ cls := Value.type "tuple", data := Data.seq #[] }
noncomputable def hd.o46 (P : Params) : Obj :=
{ cls := Value.type "StopIteration",
  data :=
    Data.fields
      #[Value.ref 52, Value.none, Value.none, Value.none, Value.bool Bool.false,
        Value.none] }
noncomputable def hd.o47 (P : Params) : Obj :=
{ cls := Value.type "tuple", data := Data.seq #[Value.int 4 228, Value.ref 25] }
noncomputable def hd.o48 (P : Params) : Obj :=
{ cls := Value.type "tuple_iterator", data := Data.fields #[Value.none, Value.int 2 0] }
noncomputable def hd.o49 (P : Params) : Obj :=
{ cls := Value.type "tuple", data := Data.seq #[] }
noncomputable def hd.o50 (P : Params) : Obj :=
{ cls := Value.type "StopIteration",
  data :=
    Data.fields
      #[Value.ref 56, Value.none, Value.none, Value.none, Value.bool Bool.false,
        Value.none] }
noncomputable def hd.o51 (P : Params) : Obj :=
{ cls := Value.type "tuple_iterator", data := Data.fields #[Value.none, Value.int 4 0] }
noncomputable def hd.o52 (P : Params) : Obj :=
{ cls := Value.type "tuple", data := Data.seq #[] }
noncomputable def hd.o53 (P : Params) : Obj :=
{ cls := Value.type "StopIteration",
  data :=
    Data.fields
      #[Value.ref 59, Value.none, Value.none, Value.none, Value.bool Bool.false,
        Value.none] }
noncomputable def hd.o54 (P : Params) : Obj :=
{ cls := Value.type "tuple", data := Data.seq #[Value.int 5 239, Value.ref 26] }
noncomputable def hd.o55 (P : Params) : Obj :=
{ cls := Value.type "tuple_iterator", data := Data.fields #[Value.none, Value.int 2 0] }
noncomputable def hd.o56 (P : Params) : Obj :=
{ cls := Value.type "tuple", data := Data.seq #[] }
noncomputable def hd.o57 (P : Params) : Obj :=
{ cls := Value.type "StopIteration",
  data :=
    Data.fields
      #[Value.ref 63, Value.none, Value.none, Value.none, Value.bool Bool.false,
        Value.none] }
noncomputable def hd.o58 (P : Params) : Obj :=
{ cls := Value.type "tuple_iterator", data := Data.fields #[Value.none, Value.int 2 0] }
noncomputable def hd.o59 (P : Params) : Obj :=
{ cls := Value.type "tuple", data := Data.seq #[] }
noncomputable def hd.o60 (P : Params) : Obj :=
{ cls := Value.type "StopIteration",
  data :=
    Data.fields
      #[Value.ref 66, Value.none, Value.none, Value.none, Value.bool Bool.false,
        Value.none] }
noncomputable def hd.o61 (P : Params) : Obj :=
{ cls := Value.type "tuple", data := Data.seq #[Value.int 6 246, Value.ref 27] }
noncomputable def hd.o62 (P : Params) : Obj :=
{ cls := Value.type "tuple_iterator", data := Data.fields #[Value.none, Value.int 2 0] }
noncomputable def hd.o63 (P : Params) : Obj :=
{ cls := Value.type "tuple", data := Data.seq #[] }
noncomputable def hd.o64 (P : Params) : Obj :=
{ cls := Value.type "StopIteration",
  data :=
    Data.fields
      #[Value.ref 70, Value.none, Value.none, Value.none, Value.bool Bool.false,
        Value.none] }
noncomputable def hd.o65 (P : Params) : Obj :=
{ cls := Value.type "tuple_iterator", data := Data.fields #[Value.none, Value.int 3 0] }
noncomputable def hd.o66 (P : Params) : Obj :=
{ cls := Value.type "tuple", data := Data.seq #[] }
noncomputable def hd.o67 (P : Params) : Obj :=
{ cls := Value.type "StopIteration",
  data :=
    Data.fields
      #[Value.ref 73, Value.none, Value.none, Value.none, Value.bool Bool.false,
        Value.none] }
noncomputable def hd.o68 (P : Params) : Obj :=
{ cls := Value.type "tuple", data := Data.seq #[] }
noncomputable def hd.o69 (P : Params) : Obj :=
{ cls := Value.type "StopIteration",
  data :=
    Data.fields
      #[Value.ref 75, Value.none, Value.none, Value.none, Value.bool Bool.false,
        Value.none] }
noncomputable def hd.tr2 (P : Params) : BT := (.node (boot_o_0 P) (.node (boot_o_1 P) (.node (hd.o21 P) (.node (boot_o_7 P) (.node (hd.o7 P) (.node (hd.o24 P) (.node (hd.o56 P) .nil .nil) .nil) (.node (hd.o40 P) .nil .nil)) (.node (hd.o15 P) (.node (hd.o32 P) (.node (hd.o64 P) .nil .nil) .nil) (.node (hd.o48 P) .nil .nil))) (.node (hd.o1 P) (.node (hd.o11 P) (.node (hd.o28 P) (.node (hd.o60 P) .nil .nil) .nil) (.node (hd.o44 P) .nil .nil)) (.node (hd.o19 P) (.node (hd.o36 P) (.node (hd.o68 P) .nil .nil) .nil) (.node (hd.o52 P) .nil .nil)))) (.node (boot_o_5 P) (.node (boot_o_9 P) (.node (hd.o9 P) (.node (hd.o26 P) (.node (hd.o58 P) .nil .nil) .nil) (.node (hd.o42 P) .nil .nil)) (.node (hd.o17 P) (.node (hd.o34 P) (.node (hd.o66 P) .nil .nil) .nil) (.node (hd.o50 P) .nil .nil))) (.node (hd.o3 P) (.node (hd.o13 P) (.node (hd.o30 P) (.node (hd.o62 P) .nil .nil) .nil) (.node (hd.o46 P) .nil .nil)) (.node (hd.o22 P) (.node (hd.o38 P) .nil .nil) (.node (hd.o54 P) .nil .nil))))) (.node (boot_o_2 P) (.node (boot_o_4 P) (.node (boot_o_8 P) (.node (hd.o8 P) (.node (hd.o25 P) (.node (hd.o57 P) .nil .nil) .nil) (.node (hd.o41 P) .nil .nil)) (.node (hd.o16 P) (.node (hd.o33 P) (.node (hd.o65 P) .nil .nil) .nil) (.node (hd.o49 P) .nil .nil))) (.node (hd.o6 P) (.node (hd.o12 P) (.node (hd.o29 P) (.node (hd.o61 P) .nil .nil) .nil) (.node (hd.o45 P) .nil .nil)) (.node (hd.o20 P) (.node (hd.o37 P) (.node (hd.o69 P) .nil .nil) .nil) (.node (hd.o53 P) .nil .nil)))) (.node (boot_o_6 P) (.node (boot_o_10 P) (.node (hd.o10 P) (.node (hd.o27 P) (.node (hd.o59 P) .nil .nil) .nil) (.node (hd.o43 P) .nil .nil)) (.node (hd.o18 P) (.node (hd.o35 P) (.node (hd.o67 P) .nil .nil) .nil) (.node (hd.o51 P) .nil .nil))) (.node (hd.o4 P) (.node (hd.o14 P) (.node (hd.o31 P) (.node (hd.o63 P) .nil .nil) .nil) (.node (hd.o47 P) .nil .nil)) (.node (hd.o23 P) (.node (hd.o39 P) .nil .nil) (.node (hd.o55 P) .nil .nil))))))
noncomputable def hd.s2 (w : World) (os : OsState) : SharedT := ⟨hd.tr2 w.params, 77, { }, #[], { }, 256, os⟩
noncomputable def hd.o70 (P : Params) : Obj :=
{ cls := Value.type "dict",
  data :=
    Data.dict
      #[{ hash := PyData.keyHash P (Str.ofString "__name__"),
          key := Value.str (Str.ofString "__name__") 165,
          val := Value.str (Str.ofString "law_lo0003_01") 286 },
        { hash := PyData.keyHash P (Str.ofString "__doc__"),
          key := Value.str (Str.ofString "__doc__") 166, val := Value.none },
        { hash := PyData.keyHash P (Str.ofString "__package__"),
          key := Value.str (Str.ofString "__package__") 167, val := Value.none },
        { hash := PyData.keyHash P (Str.ofString "__loader__"),
          key := Value.str (Str.ofString "__loader__") 168,
          val := Value.builtin "__main__.__loader__#opaque" },
        { hash := PyData.keyHash P (Str.ofString "__spec__"),
          key := Value.str (Str.ofString "__spec__") 169, val := Value.none },
        { hash := PyData.keyHash P (Str.ofString "__annotations__"),
          key := Value.str (Str.ofString "__annotations__") 170, val := Value.ref 6 },
        { hash := PyData.keyHash P (Str.ofString "__builtins__"),
          key := Value.str (Str.ofString "__builtins__") 171, val := Value.ref 4 },
        { hash := PyData.keyHash P (Str.ofString "__file__"),
          key := Value.str (Str.ofString "__file__") 173,
          val := Value.str (Str.ofString "/claim/cut.py") 172 },
        { hash := PyData.keyHash P (Str.ofString "__cached__"),
          key := Value.str (Str.ofString "__cached__") 174, val := Value.none },
        { hash := PyData.keyHash P (Str.ofString "_error"),
          key := Value.str (Str.ofString "_error") 195, val := Value.ref 21 },
        { hash := PyData.keyHash P (Str.ofString "_binary_ops"),
          key := Value.str (Str.ofString "_binary_ops") 209, val := Value.ref 31 },
        { hash := PyData.keyHash P (Str.ofString "_c2py_ops"),
          key := Value.str (Str.ofString "_c2py_ops") 265, val := Value.ref 77 },
        { hash := PyData.keyHash P (Str.ofString "_parse"),
          key := Value.str (Str.ofString "_parse") 285, val := Value.ref 85 },
        { hash := PyData.keyHash P (Str.ofString "_law_level"),
          key := Value.str (Str.ofString "_law_level") 296, val := Value.ref 92 }]
      14 }
noncomputable def hd.o71 (P : Params) : Obj :=
{ cls := Value.none,
  data :=
    Data.fields
      #[Value.int 2 0, Value.int 0 0, Value.ref 20, Value.int 10 0, Value.int 0 0,
        Value.ref 84, Value.int 53 0, Value.int 0 0, Value.ref 91] }
noncomputable def hd.o72 (P : Params) : Obj :=
{ cls := Value.type "dict",
  data :=
    Data.dict
      #[{ hash := PyData.keyHash P (Str.ofString "||"),
          key := Value.str (Str.ofString "||") 256, val := Value.str (Str.ofString "or") 257 },
        { hash := PyData.keyHash P (Str.ofString "&&"),
          key := Value.str (Str.ofString "&&") 258, val := Value.str (Str.ofString "and") 259 },
        { hash := PyData.keyHash P (Str.ofString "/"), key := Value.str (Str.ofString "/") 260,
          val := Value.str (Str.ofString "//") 261 }]
      3 }
noncomputable def hd.o73 (P : Params) : Obj :=
{ cls := Value.type "tuple", data := Data.seq #[Value.int (-1) 267] }
noncomputable def hd.o74 (P : Params) : Obj :=
{ cls := Value.type "tuple", data := Data.seq #[] }
noncomputable def hd.o75 (P : Params) : Obj :=
{ cls := Value.none, data := Data.fields #[] }
noncomputable def hd.o76 (P : Params) : Obj :=
{ cls := Value.type "tuple",
  data :=
    Data.seq
      #[Value.str (Str.ofString "tokens") 271, Value.str (Str.ofString "priority") 272,
        Value.str (Str.ofString "result") 273, Value.str (Str.ofString "nexttok") 274,
        Value.str (Str.ofString "sub") 275, Value.str (Str.ofString "value") 276,
        Value.str (Str.ofString "j") 277, Value.str (Str.ofString "i") 278,
        Value.str (Str.ofString "op") 279, Value.str (Str.ofString "right") 280,
        Value.str (Str.ofString "if_true") 281, Value.str (Str.ofString "if_false") 282] }
noncomputable def hd.o77 (P : Params) : Obj :=
{ cls := Value.type "tuple", data := Data.seq #[] }
noncomputable def hd.o78 (P : Params) : Obj :=
{ cls := Value.none,
  data :=
    Data.func
      { name := Str.ofString "_parse", qualname := Str.ofString "_parse", params := fP 5,
        body := fB 5, scope := fS 5, globals := 0, closure := [], defaults := Value.none,
        kwdefaults := Value.none } }
noncomputable def hd.o79 (P : Params) : Obj :=
{ cls := Value.type "code",
  data :=
    Data.fields
      #[Value.str (Str.ofString "_parse") 268, Value.str (Str.ofString "_parse") 269,
        Value.str (Str.ofString "/claim/cut.py") 270, Value.int 10 0, Value.int 2 0,
        Value.int 0 0, Value.int 0 0, Value.int 3 0, Value.ref 79, Value.bool Bool.true,
        Value.int 181 0, Value.ref 80, Value.none, Value.ref 81, Value.ref 82,
        Value.ref 83, Value.int 283 0, Value.int 10 0,
        Value.str (Str.ofString "/claim/cut.py") 284] }
noncomputable def hd.o80 (P : Params) : Obj :=
{ cls := Value.type "function",
  data :=
    Data.func
      { name := Str.ofString "_parse", qualname := Str.ofString "_parse", params := fP 5,
        body := fB 5, scope := fS 5, globals := 3, closure := [], defaults := Value.ref 78,
        kwdefaults := Value.none, pyModule := Value.str (Str.ofString "cpy313.gettext") 187,
        code := Value.ref 84 } }
noncomputable def hd.o81 (P : Params) : Obj :=
{ cls := Value.type "tuple", data := Data.seq #[] }
noncomputable def hd.o82 (P : Params) : Obj :=
{ cls := Value.none, data := Data.fields #[] }
noncomputable def hd.o83 (P : Params) : Obj :=
{ cls := Value.type "tuple",
  data :=
    Data.seq
      #[Value.str (Str.ofString "token") 291, Value.str (Str.ofString "tiers") 292,
        Value.str (Str.ofString "k") 293] }
noncomputable def hd.o84 (P : Params) : Obj :=
{ cls := Value.type "tuple", data := Data.seq #[] }
noncomputable def hd.o85 (P : Params) : Obj :=
{ cls := Value.none,
  data :=
    Data.func
      { name := Str.ofString "_law_level", qualname := Str.ofString "_law_level", params := fP 7,
        body := fB 7, scope := fS 7, globals := 0, closure := [], defaults := Value.none,
        kwdefaults := Value.none } }
noncomputable def hd.o86 (P : Params) : Obj :=
{ cls := Value.type "code",
  data :=
    Data.fields
      #[Value.str (Str.ofString "_law_level") 288, Value.str (Str.ofString "_law_level") 289,
        Value.str (Str.ofString "/claim/cut.py") 290, Value.int 53 0, Value.int 1 0,
        Value.int 0 0, Value.int 0 0, Value.int 3 0, Value.ref 86, Value.bool Bool.true,
        Value.int 181 0, Value.ref 87, Value.none, Value.ref 88, Value.ref 89,
        Value.ref 90, Value.int 294 0, Value.int 53 0,
        Value.str (Str.ofString "/claim/cut.py") 295] }
noncomputable def hd.o87 (P : Params) : Obj :=
{ cls := Value.type "function",
  data :=
    Data.func
      { name := Str.ofString "_law_level", qualname := Str.ofString "_law_level", params := fP 7,
        body := fB 7, scope := fS 7, globals := 3, closure := [], defaults := Value.none,
        kwdefaults := Value.none, pyModule := Value.str (Str.ofString "law_lo0003_01") 286,
        code := Value.ref 91 } }
noncomputable def hd.tr3 (P : Params) : BT := (.node (boot_o_0 P) (.node (boot_o_1 P) (.node (hd.o70 P) (.node (boot_o_7 P) (.node (hd.o7 P) (.node (hd.o24 P) (.node (hd.o56 P) .nil .nil) .nil) (.node (hd.o40 P) (.node (hd.o74 P) .nil .nil) .nil)) (.node (hd.o15 P) (.node (hd.o32 P) (.node (hd.o64 P) .nil .nil) .nil) (.node (hd.o48 P) (.node (hd.o82 P) .nil .nil) .nil))) (.node (hd.o1 P) (.node (hd.o11 P) (.node (hd.o28 P) (.node (hd.o60 P) .nil .nil) .nil) (.node (hd.o44 P) (.node (hd.o78 P) .nil .nil) .nil)) (.node (hd.o19 P) (.node (hd.o36 P) (.node (hd.o68 P) .nil .nil) .nil) (.node (hd.o52 P) (.node (hd.o86 P) .nil .nil) .nil)))) (.node (boot_o_5 P) (.node (boot_o_9 P) (.node (hd.o9 P) (.node (hd.o26 P) (.node (hd.o58 P) .nil .nil) .nil) (.node (hd.o42 P) (.node (hd.o76 P) .nil .nil) .nil)) (.node (hd.o17 P) (.node (hd.o34 P) (.node (hd.o66 P) .nil .nil) .nil) (.node (hd.o50 P) (.node (hd.o84 P) .nil .nil) .nil))) (.node (hd.o3 P) (.node (hd.o13 P) (.node (hd.o30 P) (.node (hd.o62 P) .nil .nil) .nil) (.node (hd.o46 P) (.node (hd.o80 P) .nil .nil) .nil)) (.node (hd.o22 P) (.node (hd.o38 P) (.node (hd.o72 P) .nil .nil) .nil) (.node (hd.o54 P) .nil .nil))))) (.node (boot_o_2 P) (.node (boot_o_4 P) (.node (boot_o_8 P) (.node (hd.o8 P) (.node (hd.o25 P) (.node (hd.o57 P) .nil .nil) .nil) (.node (hd.o41 P) (.node (hd.o75 P) .nil .nil) .nil)) (.node (hd.o16 P) (.node (hd.o33 P) (.node (hd.o65 P) .nil .nil) .nil) (.node (hd.o49 P) (.node (hd.o83 P) .nil .nil) .nil))) (.node (hd.o71 P) (.node (hd.o12 P) (.node (hd.o29 P) (.node (hd.o61 P) .nil .nil) .nil) (.node (hd.o45 P) (.node (hd.o79 P) .nil .nil) .nil)) (.node (hd.o20 P) (.node (hd.o37 P) (.node (hd.o69 P) .nil .nil) .nil) (.node (hd.o53 P) (.node (hd.o87 P) .nil .nil) .nil)))) (.node (boot_o_6 P) (.node (boot_o_10 P) (.node (hd.o10 P) (.node (hd.o27 P) (.node (hd.o59 P) .nil .nil) .nil) (.node (hd.o43 P) (.node (hd.o77 P) .nil .nil) .nil)) (.node (hd.o18 P) (.node (hd.o35 P) (.node (hd.o67 P) .nil .nil) .nil) (.node (hd.o51 P) (.node (hd.o85 P) .nil .nil) .nil))) (.node (hd.o4 P) (.node (hd.o14 P) (.node (hd.o31 P) (.node (hd.o63 P) .nil .nil) .nil) (.node (hd.o47 P) (.node (hd.o81 P) .nil .nil) .nil)) (.node (hd.o23 P) (.node (hd.o39 P) (.node (hd.o73 P) .nil .nil) .nil) (.node (hd.o55 P) .nil .nil))))))
noncomputable def hd.s3 (w : World) (os : OsState) : SharedT := ⟨hd.tr3 w.params, 93, { }, #[], { }, 297, os⟩
noncomputable def hd.o88 (P : Params) : Obj :=
{ cls := Value.type "dict",
  data :=
    Data.dict
      #[{ hash := PyData.keyHash P (Str.ofString "__name__"),
          key := Value.str (Str.ofString "__name__") 165,
          val := Value.str (Str.ofString "law_lo0003_01") 286 },
        { hash := PyData.keyHash P (Str.ofString "__doc__"),
          key := Value.str (Str.ofString "__doc__") 166, val := Value.none },
        { hash := PyData.keyHash P (Str.ofString "__package__"),
          key := Value.str (Str.ofString "__package__") 167, val := Value.none },
        { hash := PyData.keyHash P (Str.ofString "__loader__"),
          key := Value.str (Str.ofString "__loader__") 168,
          val := Value.builtin "__main__.__loader__#opaque" },
        { hash := PyData.keyHash P (Str.ofString "__spec__"),
          key := Value.str (Str.ofString "__spec__") 169, val := Value.none },
        { hash := PyData.keyHash P (Str.ofString "__annotations__"),
          key := Value.str (Str.ofString "__annotations__") 170, val := Value.ref 6 },
        { hash := PyData.keyHash P (Str.ofString "__builtins__"),
          key := Value.str (Str.ofString "__builtins__") 171, val := Value.ref 4 },
        { hash := PyData.keyHash P (Str.ofString "__file__"),
          key := Value.str (Str.ofString "__file__") 173,
          val := Value.str (Str.ofString "/claim/cut.py") 172 },
        { hash := PyData.keyHash P (Str.ofString "__cached__"),
          key := Value.str (Str.ofString "__cached__") 174, val := Value.none },
        { hash := PyData.keyHash P (Str.ofString "_error"),
          key := Value.str (Str.ofString "_error") 195, val := Value.ref 21 },
        { hash := PyData.keyHash P (Str.ofString "_binary_ops"),
          key := Value.str (Str.ofString "_binary_ops") 209, val := Value.ref 31 },
        { hash := PyData.keyHash P (Str.ofString "_c2py_ops"),
          key := Value.str (Str.ofString "_c2py_ops") 265, val := Value.ref 77 },
        { hash := PyData.keyHash P (Str.ofString "_parse"),
          key := Value.str (Str.ofString "_parse") 285, val := Value.ref 85 },
        { hash := PyData.keyHash P (Str.ofString "_law_level"),
          key := Value.str (Str.ofString "_law_level") 296, val := Value.ref 92 },
        { hash := PyData.keyHash P (Str.ofString "_law_due"),
          key := Value.str (Str.ofString "_law_due") 303, val := Value.ref 99 },
        { hash := PyData.keyHash P (Str.ofString "_law_row"),
          key := Value.str (Str.ofString "_law_row") 317, val := Value.ref 106 },
        { hash := PyData.keyHash P (Str.ofString "_law_refusal"),
          key := Value.str (Str.ofString "_law_refusal") 324, val := Value.ref 113 },
        { hash := PyData.keyHash P (Str.ofString "_law_walk"),
          key := Value.str (Str.ofString "_law_walk") 337, val := Value.ref 120 }]
      18 }
noncomputable def hd.o89 (P : Params) : Obj :=
{ cls := Value.none,
  data :=
    Data.fields
      #[Value.int 2 0, Value.int 0 0, Value.ref 20, Value.int 10 0, Value.int 0 0,
        Value.ref 84, Value.int 53 0, Value.int 0 0, Value.ref 91, Value.int 59 0,
        Value.int 0 0, Value.ref 98, Value.int 63 0, Value.int 0 0, Value.ref 105,
        Value.int 112 0, Value.int 0 0, Value.ref 112, Value.int 116 0, Value.int 0 0,
        Value.ref 119] }
noncomputable def hd.o90 (P : Params) : Obj :=
{ cls := Value.type "tuple", data := Data.seq #[] }
noncomputable def hd.o91 (P : Params) : Obj :=
{ cls := Value.none, data := Data.fields #[] }
noncomputable def hd.o92 (P : Params) : Obj :=
{ cls := Value.type "tuple", data := Data.seq #[Value.str (Str.ofString "row") 300] }
noncomputable def hd.o93 (P : Params) : Obj :=
{ cls := Value.type "tuple", data := Data.seq #[] }
noncomputable def hd.o94 (P : Params) : Obj :=
{ cls := Value.none,
  data :=
    Data.func
      { name := Str.ofString "_law_due", qualname := Str.ofString "_law_due", params := fP 8,
        body := fB 8, scope := fS 8, globals := 0, closure := [], defaults := Value.none,
        kwdefaults := Value.none } }
noncomputable def hd.o95 (P : Params) : Obj :=
{ cls := Value.type "code",
  data :=
    Data.fields
      #[Value.str (Str.ofString "_law_due") 297, Value.str (Str.ofString "_law_due") 298,
        Value.str (Str.ofString "/claim/cut.py") 299, Value.int 59 0, Value.int 1 0,
        Value.int 0 0, Value.int 0 0, Value.int 3 0, Value.ref 93, Value.bool Bool.true,
        Value.int 181 0, Value.ref 94, Value.none, Value.ref 95, Value.ref 96,
        Value.ref 97, Value.int 301 0, Value.int 59 0,
        Value.str (Str.ofString "/claim/cut.py") 302] }
noncomputable def hd.o96 (P : Params) : Obj :=
{ cls := Value.type "function",
  data :=
    Data.func
      { name := Str.ofString "_law_due", qualname := Str.ofString "_law_due", params := fP 8,
        body := fB 8, scope := fS 8, globals := 3, closure := [], defaults := Value.none,
        kwdefaults := Value.none, pyModule := Value.str (Str.ofString "law_lo0003_01") 286,
        code := Value.ref 98 } }
noncomputable def hd.o97 (P : Params) : Obj :=
{ cls := Value.type "tuple", data := Data.seq #[] }
noncomputable def hd.o98 (P : Params) : Obj :=
{ cls := Value.none, data := Data.fields #[] }
noncomputable def hd.o99 (P : Params) : Obj :=
{ cls := Value.type "tuple",
  data :=
    Data.seq
      #[Value.str (Str.ofString "cells") 307, Value.str (Str.ofString "operations") 308,
        Value.str (Str.ofString "row") 309, Value.str (Str.ofString "opened") 310,
        Value.str (Str.ofString "x") 311, Value.str (Str.ofString "kind") 312,
        Value.str (Str.ofString "token") 313, Value.str (Str.ofString "size") 314] }
noncomputable def hd.o100 (P : Params) : Obj :=
{ cls := Value.type "tuple", data := Data.seq #[] }
noncomputable def hd.o101 (P : Params) : Obj :=
{ cls := Value.none,
  data :=
    Data.func
      { name := Str.ofString "_law_row", qualname := Str.ofString "_law_row", params := fP 9,
        body := fB 9, scope := fS 9, globals := 0, closure := [], defaults := Value.none,
        kwdefaults := Value.none } }
noncomputable def hd.o102 (P : Params) : Obj :=
{ cls := Value.type "code",
  data :=
    Data.fields
      #[Value.str (Str.ofString "_law_row") 304, Value.str (Str.ofString "_law_row") 305,
        Value.str (Str.ofString "/claim/cut.py") 306, Value.int 63 0, Value.int 1 0,
        Value.int 0 0, Value.int 0 0, Value.int 3 0, Value.ref 100, Value.bool Bool.true,
        Value.int 181 0, Value.ref 101, Value.none, Value.ref 102, Value.ref 103,
        Value.ref 104, Value.int 315 0, Value.int 63 0,
        Value.str (Str.ofString "/claim/cut.py") 316] }
noncomputable def hd.o103 (P : Params) : Obj :=
{ cls := Value.type "function",
  data :=
    Data.func
      { name := Str.ofString "_law_row", qualname := Str.ofString "_law_row", params := fP 9,
        body := fB 9, scope := fS 9, globals := 3, closure := [], defaults := Value.none,
        kwdefaults := Value.none, pyModule := Value.str (Str.ofString "law_lo0003_01") 286,
        code := Value.ref 105 } }
noncomputable def hd.o104 (P : Params) : Obj :=
{ cls := Value.type "tuple", data := Data.seq #[] }
noncomputable def hd.o105 (P : Params) : Obj :=
{ cls := Value.none, data := Data.fields #[] }
noncomputable def hd.o106 (P : Params) : Obj :=
{ cls := Value.type "tuple", data := Data.seq #[Value.str (Str.ofString "token") 321] }
noncomputable def hd.o107 (P : Params) : Obj :=
{ cls := Value.type "tuple", data := Data.seq #[] }
noncomputable def hd.o108 (P : Params) : Obj :=
{ cls := Value.none,
  data :=
    Data.func
      { name := Str.ofString "_law_refusal", qualname := Str.ofString "_law_refusal", params := fP 10,
        body := fB 10, scope := fS 10, globals := 0, closure := [], defaults := Value.none,
        kwdefaults := Value.none } }
noncomputable def hd.o109 (P : Params) : Obj :=
{ cls := Value.type "code",
  data :=
    Data.fields
      #[Value.str (Str.ofString "_law_refusal") 318,
        Value.str (Str.ofString "_law_refusal") 319,
        Value.str (Str.ofString "/claim/cut.py") 320, Value.int 112 0, Value.int 1 0,
        Value.int 0 0, Value.int 0 0, Value.int 3 0, Value.ref 107, Value.bool Bool.true,
        Value.int 181 0, Value.ref 108, Value.none, Value.ref 109, Value.ref 110,
        Value.ref 111, Value.int 322 0, Value.int 112 0,
        Value.str (Str.ofString "/claim/cut.py") 323] }
noncomputable def hd.o110 (P : Params) : Obj :=
{ cls := Value.type "function",
  data :=
    Data.func
      { name := Str.ofString "_law_refusal", qualname := Str.ofString "_law_refusal", params := fP 10,
        body := fB 10, scope := fS 10, globals := 3, closure := [], defaults := Value.none,
        kwdefaults := Value.none, pyModule := Value.str (Str.ofString "law_lo0003_01") 286,
        code := Value.ref 112 } }
noncomputable def hd.o111 (P : Params) : Obj :=
{ cls := Value.type "tuple", data := Data.seq #[] }
noncomputable def hd.o112 (P : Params) : Obj :=
{ cls := Value.none, data := Data.fields #[] }
noncomputable def hd.o113 (P : Params) : Obj :=
{ cls := Value.type "tuple",
  data :=
    Data.seq
      #[Value.str (Str.ofString "row") 328, Value.str (Str.ofString "priority") 329,
        Value.str (Str.ofString "opened") 330, Value.str (Str.ofString "due") 331,
        Value.str (Str.ofString "at") 332, Value.str (Str.ofString "token") 333,
        Value.str (Str.ofString "last") 334] }
noncomputable def hd.o114 (P : Params) : Obj :=
{ cls := Value.type "tuple", data := Data.seq #[] }
noncomputable def hd.o115 (P : Params) : Obj :=
{ cls := Value.none,
  data :=
    Data.func
      { name := Str.ofString "_law_walk", qualname := Str.ofString "_law_walk", params := fP 11,
        body := fB 11, scope := fS 11, globals := 0, closure := [], defaults := Value.none,
        kwdefaults := Value.none } }
noncomputable def hd.o116 (P : Params) : Obj :=
{ cls := Value.type "code",
  data :=
    Data.fields
      #[Value.str (Str.ofString "_law_walk") 325, Value.str (Str.ofString "_law_walk") 326,
        Value.str (Str.ofString "/claim/cut.py") 327, Value.int 116 0, Value.int 2 0,
        Value.int 0 0, Value.int 0 0, Value.int 3 0, Value.ref 114, Value.bool Bool.true,
        Value.int 181 0, Value.ref 115, Value.none, Value.ref 116, Value.ref 117,
        Value.ref 118, Value.int 335 0, Value.int 116 0,
        Value.str (Str.ofString "/claim/cut.py") 336] }
noncomputable def hd.o117 (P : Params) : Obj :=
{ cls := Value.type "function",
  data :=
    Data.func
      { name := Str.ofString "_law_walk", qualname := Str.ofString "_law_walk", params := fP 11,
        body := fB 11, scope := fS 11, globals := 3, closure := [], defaults := Value.none,
        kwdefaults := Value.none, pyModule := Value.str (Str.ofString "law_lo0003_01") 286,
        code := Value.ref 119 } }
noncomputable def hd.tr4 (P : Params) : BT := (.node (boot_o_0 P) (.node (boot_o_1 P) (.node (hd.o88 P) (.node (boot_o_7 P) (.node (hd.o7 P) (.node (hd.o24 P) (.node (hd.o56 P) .nil .nil) (.node (hd.o92 P) .nil .nil)) (.node (hd.o40 P) (.node (hd.o74 P) .nil .nil) (.node (hd.o108 P) .nil .nil))) (.node (hd.o15 P) (.node (hd.o32 P) (.node (hd.o64 P) .nil .nil) (.node (hd.o100 P) .nil .nil)) (.node (hd.o48 P) (.node (hd.o82 P) .nil .nil) (.node (hd.o116 P) .nil .nil)))) (.node (hd.o1 P) (.node (hd.o11 P) (.node (hd.o28 P) (.node (hd.o60 P) .nil .nil) (.node (hd.o96 P) .nil .nil)) (.node (hd.o44 P) (.node (hd.o78 P) .nil .nil) (.node (hd.o112 P) .nil .nil))) (.node (hd.o19 P) (.node (hd.o36 P) (.node (hd.o68 P) .nil .nil) (.node (hd.o104 P) .nil .nil)) (.node (hd.o52 P) (.node (hd.o86 P) .nil .nil) .nil)))) (.node (boot_o_5 P) (.node (boot_o_9 P) (.node (hd.o9 P) (.node (hd.o26 P) (.node (hd.o58 P) .nil .nil) (.node (hd.o94 P) .nil .nil)) (.node (hd.o42 P) (.node (hd.o76 P) .nil .nil) (.node (hd.o110 P) .nil .nil))) (.node (hd.o17 P) (.node (hd.o34 P) (.node (hd.o66 P) .nil .nil) (.node (hd.o102 P) .nil .nil)) (.node (hd.o50 P) (.node (hd.o84 P) .nil .nil) .nil))) (.node (hd.o3 P) (.node (hd.o13 P) (.node (hd.o30 P) (.node (hd.o62 P) .nil .nil) (.node (hd.o98 P) .nil .nil)) (.node (hd.o46 P) (.node (hd.o80 P) .nil .nil) (.node (hd.o114 P) .nil .nil))) (.node (hd.o22 P) (.node (hd.o38 P) (.node (hd.o72 P) .nil .nil) (.node (hd.o106 P) .nil .nil)) (.node (hd.o54 P) (.node (hd.o90 P) .nil .nil) .nil))))) (.node (boot_o_2 P) (.node (boot_o_4 P) (.node (boot_o_8 P) (.node (hd.o8 P) (.node (hd.o25 P) (.node (hd.o57 P) .nil .nil) (.node (hd.o93 P) .nil .nil)) (.node (hd.o41 P) (.node (hd.o75 P) .nil .nil) (.node (hd.o109 P) .nil .nil))) (.node (hd.o16 P) (.node (hd.o33 P) (.node (hd.o65 P) .nil .nil) (.node (hd.o101 P) .nil .nil)) (.node (hd.o49 P) (.node (hd.o83 P) .nil .nil) (.node (hd.o117 P) .nil .nil)))) (.node (hd.o89 P) (.node (hd.o12 P) (.node (hd.o29 P) (.node (hd.o61 P) .nil .nil) (.node (hd.o97 P) .nil .nil)) (.node (hd.o45 P) (.node (hd.o79 P) .nil .nil) (.node (hd.o113 P) .nil .nil))) (.node (hd.o20 P) (.node (hd.o37 P) (.node (hd.o69 P) .nil .nil) (.node (hd.o105 P) .nil .nil)) (.node (hd.o53 P) (.node (hd.o87 P) .nil .nil) .nil)))) (.node (boot_o_6 P) (.node (boot_o_10 P) (.node (hd.o10 P) (.node (hd.o27 P) (.node (hd.o59 P) .nil .nil) (.node (hd.o95 P) .nil .nil)) (.node (hd.o43 P) (.node (hd.o77 P) .nil .nil) (.node (hd.o111 P) .nil .nil))) (.node (hd.o18 P) (.node (hd.o35 P) (.node (hd.o67 P) .nil .nil) (.node (hd.o103 P) .nil .nil)) (.node (hd.o51 P) (.node (hd.o85 P) .nil .nil) .nil))) (.node (hd.o4 P) (.node (hd.o14 P) (.node (hd.o31 P) (.node (hd.o63 P) .nil .nil) (.node (hd.o99 P) .nil .nil)) (.node (hd.o47 P) (.node (hd.o81 P) .nil .nil) (.node (hd.o115 P) .nil .nil))) (.node (hd.o23 P) (.node (hd.o39 P) (.node (hd.o73 P) .nil .nil) (.node (hd.o107 P) .nil .nil)) (.node (hd.o55 P) (.node (hd.o91 P) .nil .nil) .nil))))))
noncomputable def hd.s4 (w : World) (os : OsState) : SharedT := ⟨hd.tr4 w.params, 121, { }, #[], { }, 338, os⟩
noncomputable def hd.o118 (P : Params) : Obj :=
{ cls := Value.type "dict",
  data :=
    Data.dict
      #[{ hash := PyData.keyHash P (Str.ofString "__name__"),
          key := Value.str (Str.ofString "__name__") 165,
          val := Value.str (Str.ofString "law_lo0003_01") 286 },
        { hash := PyData.keyHash P (Str.ofString "__doc__"),
          key := Value.str (Str.ofString "__doc__") 166, val := Value.none },
        { hash := PyData.keyHash P (Str.ofString "__package__"),
          key := Value.str (Str.ofString "__package__") 167, val := Value.none },
        { hash := PyData.keyHash P (Str.ofString "__loader__"),
          key := Value.str (Str.ofString "__loader__") 168,
          val := Value.builtin "__main__.__loader__#opaque" },
        { hash := PyData.keyHash P (Str.ofString "__spec__"),
          key := Value.str (Str.ofString "__spec__") 169, val := Value.none },
        { hash := PyData.keyHash P (Str.ofString "__annotations__"),
          key := Value.str (Str.ofString "__annotations__") 170, val := Value.ref 6 },
        { hash := PyData.keyHash P (Str.ofString "__builtins__"),
          key := Value.str (Str.ofString "__builtins__") 171, val := Value.ref 4 },
        { hash := PyData.keyHash P (Str.ofString "__file__"),
          key := Value.str (Str.ofString "__file__") 173,
          val := Value.str (Str.ofString "/claim/cut.py") 172 },
        { hash := PyData.keyHash P (Str.ofString "__cached__"),
          key := Value.str (Str.ofString "__cached__") 174, val := Value.none },
        { hash := PyData.keyHash P (Str.ofString "_error"),
          key := Value.str (Str.ofString "_error") 195, val := Value.ref 21 },
        { hash := PyData.keyHash P (Str.ofString "_binary_ops"),
          key := Value.str (Str.ofString "_binary_ops") 209, val := Value.ref 31 },
        { hash := PyData.keyHash P (Str.ofString "_c2py_ops"),
          key := Value.str (Str.ofString "_c2py_ops") 265, val := Value.ref 77 },
        { hash := PyData.keyHash P (Str.ofString "_parse"),
          key := Value.str (Str.ofString "_parse") 285, val := Value.ref 85 },
        { hash := PyData.keyHash P (Str.ofString "_law_level"),
          key := Value.str (Str.ofString "_law_level") 296, val := Value.ref 92 },
        { hash := PyData.keyHash P (Str.ofString "_law_due"),
          key := Value.str (Str.ofString "_law_due") 303, val := Value.ref 99 },
        { hash := PyData.keyHash P (Str.ofString "_law_row"),
          key := Value.str (Str.ofString "_law_row") 317, val := Value.ref 106 },
        { hash := PyData.keyHash P (Str.ofString "_law_refusal"),
          key := Value.str (Str.ofString "_law_refusal") 324, val := Value.ref 113 },
        { hash := PyData.keyHash P (Str.ofString "_law_walk"),
          key := Value.str (Str.ofString "_law_walk") 337, val := Value.ref 120 },
        { hash := PyData.keyHash P (Str.ofString "_law_outside"),
          key := Value.str (Str.ofString "_law_outside") 347, val := Value.ref 127 },
        { hash := PyData.keyHash P (Str.ofString "_law_colon"),
          key := Value.str (Str.ofString "_law_colon") 357, val := Value.ref 134 },
        { hash := PyData.keyHash P (Str.ofString "_law_weakest"),
          key := Value.str (Str.ofString "_law_weakest") 368, val := Value.ref 141 },
        { hash := PyData.keyHash P (Str.ofString "_law_operand"),
          key := Value.str (Str.ofString "_law_operand") 377, val := Value.ref 148 }]
      22 }
noncomputable def hd.o119 (P : Params) : Obj :=
{ cls := Value.none,
  data :=
    Data.fields
      #[Value.int 2 0, Value.int 0 0, Value.ref 20, Value.int 10 0, Value.int 0 0,
        Value.ref 84, Value.int 53 0, Value.int 0 0, Value.ref 91, Value.int 59 0,
        Value.int 0 0, Value.ref 98, Value.int 63 0, Value.int 0 0, Value.ref 105,
        Value.int 112 0, Value.int 0 0, Value.ref 112, Value.int 116 0, Value.int 0 0,
        Value.ref 119, Value.int 148 0, Value.int 0 0, Value.ref 126, Value.int 159 0,
        Value.int 0 0, Value.ref 133, Value.int 169 0, Value.int 0 0, Value.ref 140,
        Value.int 178 0, Value.int 0 0, Value.ref 147] }
noncomputable def hd.o120 (P : Params) : Obj :=
{ cls := Value.type "tuple", data := Data.seq #[] }
noncomputable def hd.o121 (P : Params) : Obj :=
{ cls := Value.none, data := Data.fields #[] }
noncomputable def hd.o122 (P : Params) : Obj :=
{ cls := Value.type "tuple",
  data :=
    Data.seq
      #[Value.str (Str.ofString "part") 341, Value.str (Str.ofString "depth") 342,
        Value.str (Str.ofString "places") 343, Value.str (Str.ofString "at") 344] }
noncomputable def hd.o123 (P : Params) : Obj :=
{ cls := Value.type "tuple", data := Data.seq #[] }
noncomputable def hd.o124 (P : Params) : Obj :=
{ cls := Value.none,
  data :=
    Data.func
      { name := Str.ofString "_law_outside", qualname := Str.ofString "_law_outside", params := fP 12,
        body := fB 12, scope := fS 12, globals := 0, closure := [], defaults := Value.none,
        kwdefaults := Value.none } }
noncomputable def hd.o125 (P : Params) : Obj :=
{ cls := Value.type "code",
  data :=
    Data.fields
      #[Value.str (Str.ofString "_law_outside") 338,
        Value.str (Str.ofString "_law_outside") 339,
        Value.str (Str.ofString "/claim/cut.py") 340, Value.int 148 0, Value.int 1 0,
        Value.int 0 0, Value.int 0 0, Value.int 3 0, Value.ref 121, Value.bool Bool.true,
        Value.int 181 0, Value.ref 122, Value.none, Value.ref 123, Value.ref 124,
        Value.ref 125, Value.int 345 0, Value.int 148 0,
        Value.str (Str.ofString "/claim/cut.py") 346] }
noncomputable def hd.o126 (P : Params) : Obj :=
{ cls := Value.type "function",
  data :=
    Data.func
      { name := Str.ofString "_law_outside", qualname := Str.ofString "_law_outside", params := fP 12,
        body := fB 12, scope := fS 12, globals := 3, closure := [], defaults := Value.none,
        kwdefaults := Value.none, pyModule := Value.str (Str.ofString "law_lo0003_01") 286,
        code := Value.ref 126 } }
noncomputable def hd.o127 (P : Params) : Obj :=
{ cls := Value.type "tuple", data := Data.seq #[] }
noncomputable def hd.o128 (P : Params) : Obj :=
{ cls := Value.none, data := Data.fields #[] }
noncomputable def hd.o129 (P : Params) : Obj :=
{ cls := Value.type "tuple",
  data :=
    Data.seq
      #[Value.str (Str.ofString "part") 351, Value.str (Str.ofString "places") 352,
        Value.str (Str.ofString "waiting") 353, Value.str (Str.ofString "at") 354] }
noncomputable def hd.o130 (P : Params) : Obj :=
{ cls := Value.type "tuple", data := Data.seq #[] }
noncomputable def hd.o131 (P : Params) : Obj :=
{ cls := Value.none,
  data :=
    Data.func
      { name := Str.ofString "_law_colon", qualname := Str.ofString "_law_colon", params := fP 13,
        body := fB 13, scope := fS 13, globals := 0, closure := [], defaults := Value.none,
        kwdefaults := Value.none } }
noncomputable def hd.o132 (P : Params) : Obj :=
{ cls := Value.type "code",
  data :=
    Data.fields
      #[Value.str (Str.ofString "_law_colon") 348, Value.str (Str.ofString "_law_colon") 349,
        Value.str (Str.ofString "/claim/cut.py") 350, Value.int 159 0, Value.int 2 0,
        Value.int 0 0, Value.int 0 0, Value.int 3 0, Value.ref 128, Value.bool Bool.true,
        Value.int 181 0, Value.ref 129, Value.none, Value.ref 130, Value.ref 131,
        Value.ref 132, Value.int 355 0, Value.int 159 0,
        Value.str (Str.ofString "/claim/cut.py") 356] }
noncomputable def hd.o133 (P : Params) : Obj :=
{ cls := Value.type "function",
  data :=
    Data.func
      { name := Str.ofString "_law_colon", qualname := Str.ofString "_law_colon", params := fP 13,
        body := fB 13, scope := fS 13, globals := 3, closure := [], defaults := Value.none,
        kwdefaults := Value.none, pyModule := Value.str (Str.ofString "law_lo0003_01") 286,
        code := Value.ref 133 } }
noncomputable def hd.o134 (P : Params) : Obj :=
{ cls := Value.type "tuple", data := Data.seq #[] }
noncomputable def hd.o135 (P : Params) : Obj :=
{ cls := Value.none, data := Data.fields #[] }
noncomputable def hd.o136 (P : Params) : Obj :=
{ cls := Value.type "tuple",
  data :=
    Data.seq
      #[Value.str (Str.ofString "part") 361, Value.str (Str.ofString "weakest") 362,
        Value.str (Str.ofString "where") 363, Value.str (Str.ofString "at") 364,
        Value.str (Str.ofString "level") 365] }
noncomputable def hd.o137 (P : Params) : Obj :=
{ cls := Value.type "tuple", data := Data.seq #[] }
noncomputable def hd.o138 (P : Params) : Obj :=
{ cls := Value.none,
  data :=
    Data.func
      { name := Str.ofString "_law_weakest", qualname := Str.ofString "_law_weakest", params := fP 14,
        body := fB 14, scope := fS 14, globals := 0, closure := [], defaults := Value.none,
        kwdefaults := Value.none } }
noncomputable def hd.o139 (P : Params) : Obj :=
{ cls := Value.type "code",
  data :=
    Data.fields
      #[Value.str (Str.ofString "_law_weakest") 358,
        Value.str (Str.ofString "_law_weakest") 359,
        Value.str (Str.ofString "/claim/cut.py") 360, Value.int 169 0, Value.int 1 0,
        Value.int 0 0, Value.int 0 0, Value.int 3 0, Value.ref 135, Value.bool Bool.true,
        Value.int 181 0, Value.ref 136, Value.none, Value.ref 137, Value.ref 138,
        Value.ref 139, Value.int 366 0, Value.int 169 0,
        Value.str (Str.ofString "/claim/cut.py") 367] }
noncomputable def hd.o140 (P : Params) : Obj :=
{ cls := Value.type "function",
  data :=
    Data.func
      { name := Str.ofString "_law_weakest", qualname := Str.ofString "_law_weakest", params := fP 14,
        body := fB 14, scope := fS 14, globals := 3, closure := [], defaults := Value.none,
        kwdefaults := Value.none, pyModule := Value.str (Str.ofString "law_lo0003_01") 286,
        code := Value.ref 140 } }
noncomputable def hd.o141 (P : Params) : Obj :=
{ cls := Value.type "tuple", data := Data.seq #[] }
noncomputable def hd.o142 (P : Params) : Obj :=
{ cls := Value.none, data := Data.fields #[] }
noncomputable def hd.o143 (P : Params) : Obj :=
{ cls := Value.type "tuple",
  data :=
    Data.seq
      #[Value.str (Str.ofString "part") 372, Value.str (Str.ofString "nots") 373,
        Value.str (Str.ofString "core") 374] }
noncomputable def hd.o144 (P : Params) : Obj :=
{ cls := Value.type "tuple", data := Data.seq #[] }
noncomputable def hd.o145 (P : Params) : Obj :=
{ cls := Value.none,
  data :=
    Data.func
      { name := Str.ofString "_law_operand", qualname := Str.ofString "_law_operand", params := fP 15,
        body := fB 15, scope := fS 15, globals := 0, closure := [], defaults := Value.none,
        kwdefaults := Value.none } }
noncomputable def hd.o146 (P : Params) : Obj :=
{ cls := Value.type "code",
  data :=
    Data.fields
      #[Value.str (Str.ofString "_law_operand") 369,
        Value.str (Str.ofString "_law_operand") 370,
        Value.str (Str.ofString "/claim/cut.py") 371, Value.int 178 0, Value.int 1 0,
        Value.int 0 0, Value.int 0 0, Value.int 3 0, Value.ref 142, Value.bool Bool.true,
        Value.int 181 0, Value.ref 143, Value.none, Value.ref 144, Value.ref 145,
        Value.ref 146, Value.int 375 0, Value.int 178 0,
        Value.str (Str.ofString "/claim/cut.py") 376] }
noncomputable def hd.o147 (P : Params) : Obj :=
{ cls := Value.type "function",
  data :=
    Data.func
      { name := Str.ofString "_law_operand", qualname := Str.ofString "_law_operand", params := fP 15,
        body := fB 15, scope := fS 15, globals := 3, closure := [], defaults := Value.none,
        kwdefaults := Value.none, pyModule := Value.str (Str.ofString "law_lo0003_01") 286,
        code := Value.ref 147 } }
noncomputable def hd.tr5 (P : Params) : BT := (.node (boot_o_0 P) (.node (boot_o_1 P) (.node (hd.o118 P) (.node (boot_o_7 P) (.node (hd.o7 P) (.node (hd.o24 P) (.node (hd.o56 P) (.node (hd.o126 P) .nil .nil) .nil) (.node (hd.o92 P) .nil .nil)) (.node (hd.o40 P) (.node (hd.o74 P) (.node (hd.o142 P) .nil .nil) .nil) (.node (hd.o108 P) .nil .nil))) (.node (hd.o15 P) (.node (hd.o32 P) (.node (hd.o64 P) (.node (hd.o134 P) .nil .nil) .nil) (.node (hd.o100 P) .nil .nil)) (.node (hd.o48 P) (.node (hd.o82 P) .nil .nil) (.node (hd.o116 P) .nil .nil)))) (.node (hd.o1 P) (.node (hd.o11 P) (.node (hd.o28 P) (.node (hd.o60 P) (.node (hd.o130 P) .nil .nil) .nil) (.node (hd.o96 P) .nil .nil)) (.node (hd.o44 P) (.node (hd.o78 P) (.node (hd.o146 P) .nil .nil) .nil) (.node (hd.o112 P) .nil .nil))) (.node (hd.o19 P) (.node (hd.o36 P) (.node (hd.o68 P) (.node (hd.o138 P) .nil .nil) .nil) (.node (hd.o104 P) .nil .nil)) (.node (hd.o52 P) (.node (hd.o86 P) .nil .nil) (.node (hd.o122 P) .nil .nil))))) (.node (boot_o_5 P) (.node (boot_o_9 P) (.node (hd.o9 P) (.node (hd.o26 P) (.node (hd.o58 P) (.node (hd.o128 P) .nil .nil) .nil) (.node (hd.o94 P) .nil .nil)) (.node (hd.o42 P) (.node (hd.o76 P) (.node (hd.o144 P) .nil .nil) .nil) (.node (hd.o110 P) .nil .nil))) (.node (hd.o17 P) (.node (hd.o34 P) (.node (hd.o66 P) (.node (hd.o136 P) .nil .nil) .nil) (.node (hd.o102 P) .nil .nil)) (.node (hd.o50 P) (.node (hd.o84 P) .nil .nil) (.node (hd.o120 P) .nil .nil)))) (.node (hd.o3 P) (.node (hd.o13 P) (.node (hd.o30 P) (.node (hd.o62 P) (.node (hd.o132 P) .nil .nil) .nil) (.node (hd.o98 P) .nil .nil)) (.node (hd.o46 P) (.node (hd.o80 P) .nil .nil) (.node (hd.o114 P) .nil .nil))) (.node (hd.o22 P) (.node (hd.o38 P) (.node (hd.o72 P) (.node (hd.o140 P) .nil .nil) .nil) (.node (hd.o106 P) .nil .nil)) (.node (hd.o54 P) (.node (hd.o90 P) .nil .nil) (.node (hd.o124 P) .nil .nil)))))) (.node (boot_o_2 P) (.node (boot_o_4 P) (.node (boot_o_8 P) (.node (hd.o8 P) (.node (hd.o25 P) (.node (hd.o57 P) (.node (hd.o127 P) .nil .nil) .nil) (.node (hd.o93 P) .nil .nil)) (.node (hd.o41 P) (.node (hd.o75 P) (.node (hd.o143 P) .nil .nil) .nil) (.node (hd.o109 P) .nil .nil))) (.node (hd.o16 P) (.node (hd.o33 P) (.node (hd.o65 P) (.node (hd.o135 P) .nil .nil) .nil) (.node (hd.o101 P) .nil .nil)) (.node (hd.o49 P) (.node (hd.o83 P) .nil .nil) (.node (hd.o117 P) .nil .nil)))) (.node (hd.o119 P) (.node (hd.o12 P) (.node (hd.o29 P) (.node (hd.o61 P) (.node (hd.o131 P) .nil .nil) .nil) (.node (hd.o97 P) .nil .nil)) (.node (hd.o45 P) (.node (hd.o79 P) (.node (hd.o147 P) .nil .nil) .nil) (.node (hd.o113 P) .nil .nil))) (.node (hd.o20 P) (.node (hd.o37 P) (.node (hd.o69 P) (.node (hd.o139 P) .nil .nil) .nil) (.node (hd.o105 P) .nil .nil)) (.node (hd.o53 P) (.node (hd.o87 P) .nil .nil) (.node (hd.o123 P) .nil .nil))))) (.node (boot_o_6 P) (.node (boot_o_10 P) (.node (hd.o10 P) (.node (hd.o27 P) (.node (hd.o59 P) (.node (hd.o129 P) .nil .nil) .nil) (.node (hd.o95 P) .nil .nil)) (.node (hd.o43 P) (.node (hd.o77 P) (.node (hd.o145 P) .nil .nil) .nil) (.node (hd.o111 P) .nil .nil))) (.node (hd.o18 P) (.node (hd.o35 P) (.node (hd.o67 P) (.node (hd.o137 P) .nil .nil) .nil) (.node (hd.o103 P) .nil .nil)) (.node (hd.o51 P) (.node (hd.o85 P) .nil .nil) (.node (hd.o121 P) .nil .nil)))) (.node (hd.o4 P) (.node (hd.o14 P) (.node (hd.o31 P) (.node (hd.o63 P) (.node (hd.o133 P) .nil .nil) .nil) (.node (hd.o99 P) .nil .nil)) (.node (hd.o47 P) (.node (hd.o81 P) .nil .nil) (.node (hd.o115 P) .nil .nil))) (.node (hd.o23 P) (.node (hd.o39 P) (.node (hd.o73 P) (.node (hd.o141 P) .nil .nil) .nil) (.node (hd.o107 P) .nil .nil)) (.node (hd.o55 P) (.node (hd.o91 P) .nil .nil) (.node (hd.o125 P) .nil .nil)))))))
noncomputable def hd.s5 (w : World) (os : OsState) : SharedT := ⟨hd.tr5 w.params, 149, { }, #[], { }, 378, os⟩
noncomputable def hd.o148 (P : Params) : Obj :=
{ cls := Value.type "dict",
  data :=
    Data.dict
      #[{ hash := PyData.keyHash P (Str.ofString "__name__"),
          key := Value.str (Str.ofString "__name__") 165,
          val := Value.str (Str.ofString "law_lo0003_01") 286 },
        { hash := PyData.keyHash P (Str.ofString "__doc__"),
          key := Value.str (Str.ofString "__doc__") 166, val := Value.none },
        { hash := PyData.keyHash P (Str.ofString "__package__"),
          key := Value.str (Str.ofString "__package__") 167, val := Value.none },
        { hash := PyData.keyHash P (Str.ofString "__loader__"),
          key := Value.str (Str.ofString "__loader__") 168,
          val := Value.builtin "__main__.__loader__#opaque" },
        { hash := PyData.keyHash P (Str.ofString "__spec__"),
          key := Value.str (Str.ofString "__spec__") 169, val := Value.none },
        { hash := PyData.keyHash P (Str.ofString "__annotations__"),
          key := Value.str (Str.ofString "__annotations__") 170, val := Value.ref 6 },
        { hash := PyData.keyHash P (Str.ofString "__builtins__"),
          key := Value.str (Str.ofString "__builtins__") 171, val := Value.ref 4 },
        { hash := PyData.keyHash P (Str.ofString "__file__"),
          key := Value.str (Str.ofString "__file__") 173,
          val := Value.str (Str.ofString "/claim/cut.py") 172 },
        { hash := PyData.keyHash P (Str.ofString "__cached__"),
          key := Value.str (Str.ofString "__cached__") 174, val := Value.none },
        { hash := PyData.keyHash P (Str.ofString "_error"),
          key := Value.str (Str.ofString "_error") 195, val := Value.ref 21 },
        { hash := PyData.keyHash P (Str.ofString "_binary_ops"),
          key := Value.str (Str.ofString "_binary_ops") 209, val := Value.ref 31 },
        { hash := PyData.keyHash P (Str.ofString "_c2py_ops"),
          key := Value.str (Str.ofString "_c2py_ops") 265, val := Value.ref 77 },
        { hash := PyData.keyHash P (Str.ofString "_parse"),
          key := Value.str (Str.ofString "_parse") 285, val := Value.ref 85 },
        { hash := PyData.keyHash P (Str.ofString "_law_level"),
          key := Value.str (Str.ofString "_law_level") 296, val := Value.ref 92 },
        { hash := PyData.keyHash P (Str.ofString "_law_due"),
          key := Value.str (Str.ofString "_law_due") 303, val := Value.ref 99 },
        { hash := PyData.keyHash P (Str.ofString "_law_row"),
          key := Value.str (Str.ofString "_law_row") 317, val := Value.ref 106 },
        { hash := PyData.keyHash P (Str.ofString "_law_refusal"),
          key := Value.str (Str.ofString "_law_refusal") 324, val := Value.ref 113 },
        { hash := PyData.keyHash P (Str.ofString "_law_walk"),
          key := Value.str (Str.ofString "_law_walk") 337, val := Value.ref 120 },
        { hash := PyData.keyHash P (Str.ofString "_law_outside"),
          key := Value.str (Str.ofString "_law_outside") 347, val := Value.ref 127 },
        { hash := PyData.keyHash P (Str.ofString "_law_colon"),
          key := Value.str (Str.ofString "_law_colon") 357, val := Value.ref 134 },
        { hash := PyData.keyHash P (Str.ofString "_law_weakest"),
          key := Value.str (Str.ofString "_law_weakest") 368, val := Value.ref 141 },
        { hash := PyData.keyHash P (Str.ofString "_law_operand"),
          key := Value.str (Str.ofString "_law_operand") 377, val := Value.ref 148 },
        { hash := PyData.keyHash P (Str.ofString "_law_write"),
          key := Value.str (Str.ofString "_law_write") 383, val := Value.ref 153 },
        { hash := PyData.keyHash P (Str.ofString "law"),
          key := Value.str (Str.ofString "law") 401, val := Value.ref 160 }]
      24 }
noncomputable def hd.o149 (P : Params) : Obj :=
{ cls := Value.none,
  data :=
    Data.fields
      #[Value.int 2 0, Value.int 0 0, Value.ref 20, Value.int 10 0, Value.int 0 0,
        Value.ref 84, Value.int 53 0, Value.int 0 0, Value.ref 91, Value.int 59 0,
        Value.int 0 0, Value.ref 98, Value.int 63 0, Value.int 0 0, Value.ref 105,
        Value.int 112 0, Value.int 0 0, Value.ref 112, Value.int 116 0, Value.int 0 0,
        Value.ref 119, Value.int 148 0, Value.int 0 0, Value.ref 126, Value.int 159 0,
        Value.int 0 0, Value.ref 133, Value.int 169 0, Value.int 0 0, Value.ref 140,
        Value.int 178 0, Value.int 0 0, Value.ref 147, Value.int 188 0, Value.int 0 0,
        Value.ref 152, Value.int 211 0, Value.int 0 0, Value.ref 159] }
noncomputable def hd.o150 (P : Params) : Obj :=
{ cls := Value.type "tuple", data := Data.seq #[] }
noncomputable def hd.o151 (P : Params) : Obj :=
{ cls := Value.none, data := Data.fields #[] }
noncomputable def hd.o152 (P : Params) : Obj :=
{ cls := Value.none,
  data :=
    Data.func
      { name := Str.ofString "_law_write", qualname := Str.ofString "_law_write", params := fP 16,
        body := fB 16, scope := fS 16, globals := 0, closure := [], defaults := Value.none,
        kwdefaults := Value.none } }
noncomputable def hd.o153 (P : Params) : Obj :=
{ cls := Value.type "code",
  data :=
    Data.fields
      #[Value.str (Str.ofString "_law_write") 378, Value.str (Str.ofString "_law_write") 379,
        Value.str (Str.ofString "/claim/cut.py") 380, Value.int 188 0, Value.int 2 0,
        Value.int 0 0, Value.int 0 0, Value.int 3 0, Value.ref 149, Value.bool Bool.true,
        Value.int 181 0, Value.ref 150, Value.none, Value.none, Value.none,
        Value.ref 151, Value.int 381 0, Value.int 188 0,
        Value.str (Str.ofString "/claim/cut.py") 382] }
noncomputable def hd.o154 (P : Params) : Obj :=
{ cls := Value.type "function",
  data :=
    Data.func
      { name := Str.ofString "_law_write", qualname := Str.ofString "_law_write", params := fP 16,
        body := fB 16, scope := fS 16, globals := 3, closure := [], defaults := Value.none,
        kwdefaults := Value.none, pyModule := Value.str (Str.ofString "law_lo0003_01") 286,
        code := Value.ref 152 } }
noncomputable def hd.o155 (P : Params) : Obj :=
{ cls := Value.type "tuple", data := Data.seq #[] }
noncomputable def hd.o156 (P : Params) : Obj :=
{ cls := Value.none, data := Data.fields #[] }
noncomputable def hd.o157 (P : Params) : Obj :=
{ cls := Value.type "tuple",
  data :=
    Data.seq
      #[Value.str (Str.ofString "script") 387, Value.str (Str.ofString "cells") 388,
        Value.str (Str.ofString "left") 389, Value.str (Str.ofString "calls") 390,
        Value.str (Str.ofString "k") 391, Value.str (Str.ofString "priority") 392,
        Value.str (Str.ofString "at") 393, Value.str (Str.ofString "words") 394,
        Value.str (Str.ofString "wanted") 395, Value.str (Str.ofString "source") 396,
        Value.str (Str.ofString "told") 397, Value.str (Str.ofString "error") 398] }
noncomputable def hd.o158 (P : Params) : Obj :=
{ cls := Value.type "tuple", data := Data.seq #[] }
noncomputable def hd.o159 (P : Params) : Obj :=
{ cls := Value.none,
  data :=
    Data.func
      { name := Str.ofString "law", qualname := Str.ofString "law", params := fP 17,
        body := fB 17, scope := fS 17, globals := 0, closure := [], defaults := Value.none,
        kwdefaults := Value.none } }
noncomputable def hd.o160 (P : Params) : Obj :=
{ cls := Value.type "code",
  data :=
    Data.fields
      #[Value.str (Str.ofString "law") 384, Value.str (Str.ofString "law") 385,
        Value.str (Str.ofString "/claim/cut.py") 386, Value.int 211 0, Value.int 1 0,
        Value.int 0 0, Value.int 0 0, Value.int 3 0, Value.ref 154, Value.bool Bool.true,
        Value.int 181 0, Value.ref 155, Value.none, Value.ref 156, Value.ref 157,
        Value.ref 158, Value.int 399 0, Value.int 211 0,
        Value.str (Str.ofString "/claim/cut.py") 400] }
noncomputable def hd.o161 (P : Params) : Obj :=
{ cls := Value.type "function",
  data :=
    Data.func
      { name := Str.ofString "law", qualname := Str.ofString "law", params := fP 17,
        body := fB 17, scope := fS 17, globals := 3, closure := [], defaults := Value.none,
        kwdefaults := Value.none, pyModule := Value.str (Str.ofString "law_lo0003_01") 286,
        code := Value.ref 159 } }
noncomputable def hd.tr6 (P : Params) : BT := (.node (boot_o_0 P) (.node (boot_o_1 P) (.node (hd.o148 P) (.node (boot_o_7 P) (.node (hd.o7 P) (.node (hd.o24 P) (.node (hd.o56 P) (.node (hd.o126 P) .nil .nil) .nil) (.node (hd.o92 P) (.node (hd.o160 P) .nil .nil) .nil)) (.node (hd.o40 P) (.node (hd.o74 P) (.node (hd.o142 P) .nil .nil) .nil) (.node (hd.o108 P) .nil .nil))) (.node (hd.o15 P) (.node (hd.o32 P) (.node (hd.o64 P) (.node (hd.o134 P) .nil .nil) .nil) (.node (hd.o100 P) .nil .nil)) (.node (hd.o48 P) (.node (hd.o82 P) (.node (hd.o152 P) .nil .nil) .nil) (.node (hd.o116 P) .nil .nil)))) (.node (hd.o1 P) (.node (hd.o11 P) (.node (hd.o28 P) (.node (hd.o60 P) (.node (hd.o130 P) .nil .nil) .nil) (.node (hd.o96 P) .nil .nil)) (.node (hd.o44 P) (.node (hd.o78 P) (.node (hd.o146 P) .nil .nil) .nil) (.node (hd.o112 P) .nil .nil))) (.node (hd.o19 P) (.node (hd.o36 P) (.node (hd.o68 P) (.node (hd.o138 P) .nil .nil) .nil) (.node (hd.o104 P) .nil .nil)) (.node (hd.o52 P) (.node (hd.o86 P) (.node (hd.o156 P) .nil .nil) .nil) (.node (hd.o122 P) .nil .nil))))) (.node (boot_o_5 P) (.node (boot_o_9 P) (.node (hd.o9 P) (.node (hd.o26 P) (.node (hd.o58 P) (.node (hd.o128 P) .nil .nil) .nil) (.node (hd.o94 P) .nil .nil)) (.node (hd.o42 P) (.node (hd.o76 P) (.node (hd.o144 P) .nil .nil) .nil) (.node (hd.o110 P) .nil .nil))) (.node (hd.o17 P) (.node (hd.o34 P) (.node (hd.o66 P) (.node (hd.o136 P) .nil .nil) .nil) (.node (hd.o102 P) .nil .nil)) (.node (hd.o50 P) (.node (hd.o84 P) (.node (hd.o154 P) .nil .nil) .nil) (.node (hd.o120 P) .nil .nil)))) (.node (hd.o3 P) (.node (hd.o13 P) (.node (hd.o30 P) (.node (hd.o62 P) (.node (hd.o132 P) .nil .nil) .nil) (.node (hd.o98 P) .nil .nil)) (.node (hd.o46 P) (.node (hd.o80 P) (.node (hd.o150 P) .nil .nil) .nil) (.node (hd.o114 P) .nil .nil))) (.node (hd.o22 P) (.node (hd.o38 P) (.node (hd.o72 P) (.node (hd.o140 P) .nil .nil) .nil) (.node (hd.o106 P) .nil .nil)) (.node (hd.o54 P) (.node (hd.o90 P) (.node (hd.o158 P) .nil .nil) .nil) (.node (hd.o124 P) .nil .nil)))))) (.node (boot_o_2 P) (.node (boot_o_4 P) (.node (boot_o_8 P) (.node (hd.o8 P) (.node (hd.o25 P) (.node (hd.o57 P) (.node (hd.o127 P) .nil .nil) .nil) (.node (hd.o93 P) (.node (hd.o161 P) .nil .nil) .nil)) (.node (hd.o41 P) (.node (hd.o75 P) (.node (hd.o143 P) .nil .nil) .nil) (.node (hd.o109 P) .nil .nil))) (.node (hd.o16 P) (.node (hd.o33 P) (.node (hd.o65 P) (.node (hd.o135 P) .nil .nil) .nil) (.node (hd.o101 P) .nil .nil)) (.node (hd.o49 P) (.node (hd.o83 P) (.node (hd.o153 P) .nil .nil) .nil) (.node (hd.o117 P) .nil .nil)))) (.node (hd.o149 P) (.node (hd.o12 P) (.node (hd.o29 P) (.node (hd.o61 P) (.node (hd.o131 P) .nil .nil) .nil) (.node (hd.o97 P) .nil .nil)) (.node (hd.o45 P) (.node (hd.o79 P) (.node (hd.o147 P) .nil .nil) .nil) (.node (hd.o113 P) .nil .nil))) (.node (hd.o20 P) (.node (hd.o37 P) (.node (hd.o69 P) (.node (hd.o139 P) .nil .nil) .nil) (.node (hd.o105 P) .nil .nil)) (.node (hd.o53 P) (.node (hd.o87 P) (.node (hd.o157 P) .nil .nil) .nil) (.node (hd.o123 P) .nil .nil))))) (.node (boot_o_6 P) (.node (boot_o_10 P) (.node (hd.o10 P) (.node (hd.o27 P) (.node (hd.o59 P) (.node (hd.o129 P) .nil .nil) .nil) (.node (hd.o95 P) .nil .nil)) (.node (hd.o43 P) (.node (hd.o77 P) (.node (hd.o145 P) .nil .nil) .nil) (.node (hd.o111 P) .nil .nil))) (.node (hd.o18 P) (.node (hd.o35 P) (.node (hd.o67 P) (.node (hd.o137 P) .nil .nil) .nil) (.node (hd.o103 P) .nil .nil)) (.node (hd.o51 P) (.node (hd.o85 P) (.node (hd.o155 P) .nil .nil) .nil) (.node (hd.o121 P) .nil .nil)))) (.node (hd.o4 P) (.node (hd.o14 P) (.node (hd.o31 P) (.node (hd.o63 P) (.node (hd.o133 P) .nil .nil) .nil) (.node (hd.o99 P) .nil .nil)) (.node (hd.o47 P) (.node (hd.o81 P) (.node (hd.o151 P) .nil .nil) .nil) (.node (hd.o115 P) .nil .nil))) (.node (hd.o23 P) (.node (hd.o39 P) (.node (hd.o73 P) (.node (hd.o141 P) .nil .nil) .nil) (.node (hd.o107 P) .nil .nil)) (.node (hd.o55 P) (.node (hd.o91 P) (.node (hd.o159 P) .nil .nil) .nil) (.node (hd.o125 P) .nil .nil)))))))
noncomputable def hd.s6 (w : World) (os : OsState) : SharedT := ⟨hd.tr6 w.params, 161, { }, #[], { }, 402, os⟩
noncomputable def hd.hf (P : Params) : Heap := ⟨⟨[boot_o_0 P, boot_o_1 P, boot_o_2 P, hd.o148 P, boot_o_4 P, boot_o_5 P, boot_o_6 P, boot_o_7 P, boot_o_8 P, boot_o_9 P, boot_o_10 P, hd.o1 P, hd.o149 P, hd.o3 P, hd.o4 P, hd.o7 P, hd.o8 P, hd.o9 P, hd.o10 P, hd.o11 P, hd.o12 P, hd.o13 P, hd.o14 P, hd.o15 P, hd.o16 P, hd.o17 P, hd.o18 P, hd.o19 P, hd.o20 P, hd.o22 P, hd.o23 P, hd.o24 P, hd.o25 P, hd.o26 P, hd.o27 P, hd.o28 P, hd.o29 P, hd.o30 P, hd.o31 P, hd.o32 P, hd.o33 P, hd.o34 P, hd.o35 P, hd.o36 P, hd.o37 P, hd.o38 P, hd.o39 P, hd.o40 P, hd.o41 P, hd.o42 P, hd.o43 P, hd.o44 P, hd.o45 P, hd.o46 P, hd.o47 P, hd.o48 P, hd.o49 P, hd.o50 P, hd.o51 P, hd.o52 P, hd.o53 P, hd.o54 P, hd.o55 P, hd.o56 P, hd.o57 P, hd.o58 P, hd.o59 P, hd.o60 P, hd.o61 P, hd.o62 P, hd.o63 P, hd.o64 P, hd.o65 P, hd.o66 P, hd.o67 P, hd.o68 P, hd.o69 P, hd.o72 P, hd.o73 P, hd.o74 P, hd.o75 P, hd.o76 P, hd.o77 P, hd.o78 P, hd.o79 P, hd.o80 P, hd.o81 P, hd.o82 P, hd.o83 P, hd.o84 P, hd.o85 P, hd.o86 P, hd.o87 P, hd.o90 P, hd.o91 P, hd.o92 P, hd.o93 P, hd.o94 P, hd.o95 P, hd.o96 P, hd.o97 P, hd.o98 P, hd.o99 P, hd.o100 P, hd.o101 P, hd.o102 P, hd.o103 P, hd.o104 P, hd.o105 P, hd.o106 P, hd.o107 P, hd.o108 P, hd.o109 P, hd.o110 P, hd.o111 P, hd.o112 P, hd.o113 P, hd.o114 P, hd.o115 P, hd.o116 P, hd.o117 P, hd.o120 P, hd.o121 P, hd.o122 P, hd.o123 P, hd.o124 P, hd.o125 P, hd.o126 P, hd.o127 P, hd.o128 P, hd.o129 P, hd.o130 P, hd.o131 P, hd.o132 P, hd.o133 P, hd.o134 P, hd.o135 P, hd.o136 P, hd.o137 P, hd.o138 P, hd.o139 P, hd.o140 P, hd.o141 P, hd.o142 P, hd.o143 P, hd.o144 P, hd.o145 P, hd.o146 P, hd.o147 P, hd.o150 P, hd.o151 P, hd.o152 P, hd.o153 P, hd.o154 P, hd.o155 P, hd.o156 P, hd.o157 P, hd.o158 P, hd.o159 P, hd.o160 P, hd.o161 P]⟩, { }⟩
noncomputable def hd.gf : Array GenState := #[]
noncomputable def hd.df : Drawn := { }
noncomputable def hd.sf (w : World) (os : OsState) : Shared := ⟨hd.hf w.params, hd.gf, hd.df, 402, os⟩
noncomputable abbrev hd.env : Env := { scope := hprg.main.scope, locals := mainNs, globals := mainNs, cells := [], code := Value.ref 13, frame := some 14 }
noncomputable def cutS (i n : Nat) : List Stmt := ((behindTheImports hprg).drop i).take n
noncomputable abbrev hd.ann : Option Value := Option.some (Value.ref 6)
noncomputable abbrev hd.fp : Pos := { line := 0, col := 0, endLine := 0, endCol := 0 }
noncomputable abbrev hd.B : List Frame := [topFrame hd.fp]
noncomputable def hd.q1 : List Stmt := cutS 0 3
noncomputable def hd.q2 : List Stmt := cutS 3 1
noncomputable def hd.q3 : List Stmt := cutS 4 4
noncomputable def hd.q4 : List Stmt := cutS 8 4
noncomputable def hd.q5 : List Stmt := cutS 12 4
noncomputable def hd.q6 : List Stmt := cutS 16 2
noncomputable abbrev hd.body : List Stmt := hd.q1 ++ (hd.q2 ++ (hd.q3 ++ (hd.q4 ++ (hd.q5 ++ (hd.q6 ++ ([]))))))
noncomputable abbrev hd.c : Code := .body hd.body hd.env
noncomputable abbrev rw1 (r : String) (b : Bool) (w : World) : World := w.withFollow r b
set_option maxHeartbeats 4000000 in
theorem hd.open_ (w : World) : (fencedOpening treeTable hprg w 4046).map (fun s => (s.heap, s.gens, s.drawn, s.toks)) = some (hd.h0 w.params, hd.g0, hd.d0, 181) := by kernel_rfl
theorem hd.size (w : World) : ((hd.h0 w.params).isNs mainGlobals && hd.g0.size == 0, (hd.h0 w.params).objs.size, (hd.h0 w.params).nsMap mainGlobals "__annotations__") = (true, 11, hd.ann) := by kernel_rfl
set_option maxHeartbeats 4000000 in
theorem hd.pre (w : World) : (fun os => topGo treeTable hprg w 11 hd.ann 12 (hd.s0 w os) (topStub hprg)) = fun os => some (hd.sa w os, ⟨denote treeTable hd.c, hd.c, { line := 0, col := 0, endLine := 0, endCol := 0 }, hd.B⟩) := by kernel_rfl
set_option maxHeartbeats 4000000 in
theorem hd.block (w : World) : (fun os => segRun treeTable hprg w 11 hd.ann 1 1 (hd.sa w os) (blockOf hd.body hd.env hd.c { line := 0, col := 0, endLine := 0, endCol := 0 } hd.B)) = fun os => some (.next, (hd.sb w os).abs, hd.c, { line := 0, col := 0, endLine := 0, endCol := 0 }) := by kernel_rfl
noncomputable def hd.P1 (w : World) : Prop := (fun os => segRunT treeTable hprg w 11 hd.ann 1 166 (hd.sb w os) (piecesOf hd.q1 hd.env hd.c { line := 0, col := 0, endLine := 0, endCol := 0 } hd.B)) = fun os => some (.next, hd.s1 w os, hd.c, { line := 7, col := 0, endLine := 7, endCol := 11 })
set_option maxHeartbeats 4000000 in
theorem hd.p1 (w : World) : hd.P1 (w) := by delta hd.P1; kernel_rfl
noncomputable def hd.P2 (w : World) : Prop := (fun os => segRunT treeTable hprg w 11 hd.ann 1 2724 (hd.s1 w os) (piecesOf hd.q2 hd.env hd.c { line := 7, col := 0, endLine := 7, endCol := 11 } hd.B)) = fun os => some (.next, hd.s2 w os, hd.c, { line := 8, col := 0, endLine := 8, endCol := 11 })
set_option maxHeartbeats 4000000 in
theorem hd.p2ff (w : World) : hd.P2 ((rw1 "comprehension-iter-twice" false (rw1 "special-get-raises" false w))) := by delta hd.P2; kernel_rfl
set_option maxHeartbeats 4000000 in
theorem hd.p2ft (w : World) : hd.P2 ((rw1 "comprehension-iter-twice" false (rw1 "special-get-raises" true w))) := by delta hd.P2; kernel_rfl
theorem hd.p2f (w : World) : hd.P2 ((rw1 "comprehension-iter-twice" false w)) := byRow2 "special-get-raises" (P := fun w => hd.P2 ((rw1 "comprehension-iter-twice" false w))) hd.p2ff hd.p2ft w
set_option maxHeartbeats 4000000 in
theorem hd.p2tf (w : World) : hd.P2 ((rw1 "comprehension-iter-twice" true (rw1 "special-get-raises" false w))) := by delta hd.P2; kernel_rfl
set_option maxHeartbeats 4000000 in
theorem hd.p2tt (w : World) : hd.P2 ((rw1 "comprehension-iter-twice" true (rw1 "special-get-raises" true w))) := by delta hd.P2; kernel_rfl
theorem hd.p2t (w : World) : hd.P2 ((rw1 "comprehension-iter-twice" true w)) := byRow2 "special-get-raises" (P := fun w => hd.P2 ((rw1 "comprehension-iter-twice" true w))) hd.p2tf hd.p2tt w
theorem hd.p2 (w : World) : hd.P2 (w) := byRow2 "comprehension-iter-twice" (P := fun w => hd.P2 (w)) hd.p2f hd.p2t w
noncomputable def hd.P3 (w : World) : Prop := (fun os => segRunT treeTable hprg w 11 hd.ann 1 304 (hd.s2 w os) (piecesOf hd.q3 hd.env hd.c { line := 8, col := 0, endLine := 8, endCol := 11 } hd.B)) = fun os => some (.next, hd.s3 w os, hd.c, { line := 53, col := 0, endLine := 58, endCol := 12 })
set_option maxHeartbeats 4000000 in
theorem hd.p3f (w : World) : hd.P3 ((rw1 "special-get-raises" false w)) := by delta hd.P3; kernel_rfl
set_option maxHeartbeats 4000000 in
theorem hd.p3t (w : World) : hd.P3 ((rw1 "special-get-raises" true w)) := by delta hd.P3; kernel_rfl
theorem hd.p3 (w : World) : hd.P3 (w) := byRow2 "special-get-raises" (P := fun w => hd.P3 (w)) hd.p3f hd.p3t w
noncomputable def hd.P4 (w : World) : Prop := (fun os => segRunT treeTable hprg w 11 hd.ann 1 278 (hd.s3 w os) (piecesOf hd.q4 hd.env hd.c { line := 53, col := 0, endLine := 58, endCol := 12 } hd.B)) = fun os => some (.next, hd.s4 w os, hd.c, { line := 116, col := 0, endLine := 147, endCol := 31 })
set_option maxHeartbeats 4000000 in
theorem hd.p4 (w : World) : hd.P4 (w) := by delta hd.P4; kernel_rfl
noncomputable def hd.P5 (w : World) : Prop := (fun os => segRunT treeTable hprg w 11 hd.ann 1 276 (hd.s4 w os) (piecesOf hd.q5 hd.env hd.c { line := 116, col := 0, endLine := 147, endCol := 31 } hd.B)) = fun os => some (.next, hd.s5 w os, hd.c, { line := 178, col := 0, endLine := 187, endCol := 31 })
set_option maxHeartbeats 4000000 in
theorem hd.p5 (w : World) : hd.P5 (w) := by delta hd.P5; kernel_rfl
noncomputable def hd.P6 (w : World) : Prop := (fun os => segRunT treeTable hprg w 11 hd.ann 1 152 (hd.s5 w os) (piecesOf hd.q6 hd.env hd.c { line := 178, col := 0, endLine := 187, endCol := 31 } hd.B)) = fun os => some (.next, hd.s6 w os, hd.c, { line := 211, col := 0, endLine := 234, endCol := 21 })
set_option maxHeartbeats 4000000 in
theorem hd.p6 (w : World) : hd.P6 (w) := by delta hd.P6; kernel_rfl
set_option maxHeartbeats 4000000 in
theorem hd.fin (w : World) : (fun os => topRun treeTable hprg w 11 hd.ann 2 (hd.s6 w os).abs ⟨doneF .next, hd.c, { line := 211, col := 0, endLine := 234, endCol := 21 }, hd.B⟩) = fun os => some (hd.sf w os) := by kernel_rfl
theorem hd.run (w : World) (os : OsState) : topRun treeTable hprg w 11 hd.ann (12 + (1 + (166 + (2724 + (304 + (278 + (276 + (152 + (2))))))))) (hd.s0 w os) (topStub hprg) = some (hd.sf w os) := by
  have k := piece_nil (env := hd.env) (congrFun (hd.fin w) os)
  have k := piece_app (segRun_of (congrFun (hd.p6 w) os)) k
  have k := piece_app (segRun_of (congrFun (hd.p5 w) os)) k
  have k := piece_app (segRun_of (congrFun (hd.p4 w) os)) k
  have k := piece_app (segRun_of (congrFun (hd.p3 w) os)) k
  have k := piece_app (segRun_of (congrFun (hd.p2 w) os)) k
  have k := piece_app (segRun_of (congrFun (hd.p1 w) os)) k
  have k := piece_block (b := hd.body) (congrFun (hd.block w) os) k
  exact go_top (congrFun (hd.pre w) os) k
set_option maxHeartbeats 4000000 in
theorem hd.look1 (w : World) : (fun os : OsState => staticsOk (importedModules hprg.main.body) (hd.h0 w.params) (hd.hf w.params) && namesBound hprg (hd.hf w.params) && gensDone (hd.sf w os) && laidKept (hd.h0 w.params) (hd.hf w.params)) = fun _ => true := by kernel_rfl
set_option maxHeartbeats 4000000 in
theorem hd.look2 (w : World) : (fun os : OsState => openSeen hd.view_39 hLoose (importedModules hprg.main.body) hX true (hd.sf w os)) = fun _ => openGood hd.view_39 hLoose := by kernel_rfl
set_option maxHeartbeats 4000000 in
theorem hd.look3 (w : World) : (fun os : OsState => hHook.obs (hd.sf w os)) = fun _ => hHook.val w := by kernel_rfl
theorem hd.looks (w : World) : (fun os : OsState => (staticsOk (importedModules hprg.main.body) (hd.h0 w.params) (hd.hf w.params) && namesBound hprg (hd.hf w.params) && gensDone (hd.sf w os) && laidKept (hd.h0 w.params) (hd.hf w.params), openSeen hd.view_39 hLoose (importedModules hprg.main.body) hX true (hd.sf w os), hHook.obs (hd.sf w os))) = fun _ => (true, openGood hd.view_39 hLoose, hHook.val w) :=
  funext fun os => looks_pair (congrFun (hd.look1 w) os) (looks_pair (congrFun (hd.look2 w) os) (congrFun (hd.look3 w) os))
theorem left : LeftO hprg hd.view_39 hLoose hX hHook.obs hHook.val 4046 :=
  LeftO.of_pieces (H₀ := hd.h0) (H₁ := hd.hf) (gs₀ := hd.g0) (gs₁ := hd.gf) (d₀ := hd.d0) (d₁ := hd.df) (k₀ := 181) (k₁ := 402) (m₀ := 11) (ann := hd.ann) (M := 12 + (1 + (166 + (2724 + (304 + (278 + (276 + (152 + (2))))))))) hd.open_ hd.size hd.run rfl hd.looks
end Mine
namespace Mine
local macro_rules | `(tactic| walk_at "loc") => `(tactic| first | with_reducible exact Loc.head | (with_reducible refine Loc.tail ?_; walk_at "loc"))
local macro_rules | `(tactic| walk_at "upd") => `(tactic| first | with_reducible exact Upd.head | (with_reducible apply Upd.tail; walk_at "upd"))
local macro_rules | `(tactic| walk_at "locd") => `(tactic| first | exact Loc.head | (with_reducible apply Loc.tail; walk_at "locd"))
noncomputable abbrev prg : Program := Challenge.rw_lo0003_01.row.prog
noncomputable def opsD : List (Str × PyData) := opsTab.map fun p => (p.1, .int p.2)
noncomputable def pyD : List (Str × PyData) := pyTab.map fun p => (p.1, .str p.2)
theorem ops_tab {w : World} {h₁ : Heap} (KX : (hd.heap_39 w.params).In h₁) : StrTab prg w h₁ 31 (opsD.map fun p => (.str p.1, p.2)) := by
  refine strTab_of opsD (by decide) (KX 31 _ rfl) ⟨rfl, rfl, rfl⟩ rfl ?_ (by decide +kernel)
  repeat (first | exact True.intro | refine ⟨⟨_, rfl⟩, rfl, V.Flat.int _ _, ?_⟩)
theorem c2py_tab {w : World} {h₁ : Heap} (KX : (hd.heap_39 w.params).In h₁) : StrTab prg w h₁ 77 (pyD.map fun p => (.str p.1, p.2)) := by
  refine strTab_of pyD (by decide) (KX 77 _ rfl) ⟨rfl, rfl, rfl⟩ rfl ?_ (by decide +kernel)
  repeat (first | exact True.intro | refine ⟨⟨_, rfl⟩, rfl, V.Flat.str _ _, ?_⟩)
theorem ops_look (t : Str) : Spec.lookup (.str t) (opsD.map fun p => (.str p.1, p.2)) = (lvl t).map .int := by
  rw [lookup_strs]
  unfold opsD lvl
  generalize opsTab = l
  induction l with
  | nil => rfl
  | cons p l ih =>
    rw [List.map_cons, List.lookup_cons, List.lookup_cons]
    cases t == p.1 with
    | true => rfl
    | false => exact ih
theorem py_look (t : Str) : (Spec.lookup (.str t) (pyD.map fun p => (.str p.1, p.2))).getD (.str t) = .str (pyOp t) := by
  rw [lookup_strs]
  unfold pyD pyOp
  generalize pyTab = l
  induction l with
  | nil => rfl
  | cons p l ih =>
    rw [List.map_cons, List.lookup_cons, List.lookup_cons]
    cases t == p.1 with
    | true => rfl
    | false => exact ih
theorem len_not : (Str.ofString "not ").length = 4 := by decide +kernel
/-- the names of _parse -/
noncomputable abbrev sigP (a : ItA) (toks : List Str) (p : Int) (res nx sub value j i op right yes no : AV) : Sig :=
  [(tk "tokens", .it a (toks.map .str)), (tk "priority", .val (.int p)), (tk "result", res), (tk "nexttok", nx), (tk "sub", sub), (tk "value", value), (tk "j", j), (tk "i", i), (tk "op", op), (tk "right", right), (tk "if_true", yes), (tk "if_false", no)]
theorem parse_isFn {w : World} {h₁ : Heap} (KX : (hd.heap_39 w.params).In h₁) : IsFn h₁ 85 := ⟨_, _, KX 85 _ rfl, rfl⟩
end Mine
namespace Mine
local macro_rules | `(tactic| walk_at "loc") => `(tactic| first | with_reducible exact Loc.head | (with_reducible apply Loc.tail; walk_at "loc"))
local macro_rules | `(tactic| walk_at "locd") => `(tactic| first | exact Loc.head | (with_reducible apply Loc.tail; walk_at "locd"))
local macro_rules | `(tactic| walk_at "upd") => `(tactic| first | with_reducible exact Upd.head | (with_reducible apply Upd.tail; walk_at "upd"))
theorem due_fn {w : World} {h₁ : Heap} {mg mb : Str → Option Value} (KX : (hd.heap_39 w.params).In h₁) (st : Stat h₁ mg mb) (row : List Str) (hn : row.length ≤ 1000) : FN prg w h₁ 99 1 [dstrs row] (.bool (due row)) := by
  refine FN.of_body (params := [tk "row"]) (names := []) st (KX 99 _ rfl) rfl (codeRec_of KX rfl) rfl rfl rfl rfl rfl (bind_one fun _ => rfl) (by decide) (by decide) (by decide) rfl rfl rfl ?_
  intro c ok is hs hdp hun
  have ev := ok.toEv
  show SX c _ [(tk "row", .val (.list (row.map .str)))] _ _
  refine SX.ite (EVB.compare (EV.name ev (by walk_at "loc")) (EV.list .nil (by simp)) (OP2.eq_nil ev) rfl) (fun h => ?_) (fun h => ?_)
  · refine SX.ret EV.const_bool ?_
    cases row with
    | nil => rfl
    | cons a r => simp at h
  · refine SX.nil ?_
    cases hl : row.getLast? with
    | none => rw [List.getLast?_eq_none_iff] at hl; rw [hl] at h; simp at h
    | some t =>
      have hne : 1 ≤ row.length := by cases row with | nil => simp at hl | cons _ _ => simp
      have hit : ∀ p q r' z kk, EV c [(tk "row", .val (.list (row.map .str)))] (.Subscript (.Name (tk "row") p) (.UnaryOp .USub (.Constant (.int 1) kk q) r') z) (.str t) := fun p q r' z kk =>
        EV.item (EV.name ev (by walk_at "loc")) (EV.neg EV.const_int) (by simp; omega) (by simp; omega) (by simp; omega) (idx_last (by rw [List.getLast?_map, hl]; rfl)) (fun _ _ => rfl)
      refine SX.ret (EV.and (EV.compare (hit _ _ _ _ _) EV.const_str OP2.ne_str rfl) fun _ => EV.and (EV.compare (hit _ _ _ _ _) EV.const_str OP2.ne_str rfl) fun _ => EV.and1 (EV.not (EV.isdigit (hit _ _ _ _ _) rfl rfl) TR.bool)) ?_
      simp [due, hl]
theorem outside_fn {w : World} {h₁ : Heap} {mg mb : Str → Option Value} (KX : (hd.heap_39 w.params).In h₁) (st : Stat h₁ mg mb) (part : List Str) (hn : part.length ≤ 1000) : FN prg w h₁ 127 1 [dstrs part] (.list (nats (outside part))) := by
  refine FN.of_body (params := [tk "part"]) (names := [tk "depth", tk "places", tk "at"]) st (KX 127 _ rfl) rfl (codeRec_of KX rfl) rfl rfl rfl rfl rfl (bind_one fun _ => rfl) (by decide) (by decide) (by decide) rfl rfl rfl ?_
  intro c ok is hs hdp hun
  have ev := ok.toEv
  have g_len : GL c "len" none := GL.of is hs rfl rfl ((glob_at KX st.g rfl rfl _).trans rfl)
  have g_range : GL c "range" none := GL.of is hs rfl rfl ((glob_at KX st.g rfl rfl _).trans rfl)
  show SX c _ [(tk "part", .val (.list (part.map .str))), (tk "depth", .un), (tk "places", .un), (tk "at", .un)] _ _
  refine SX.assign ok EV.const_int (by walk_at "upd") rfl ?_
  refine SX.newlist ok .nil (by simp) (by walk_at "upd") ?_
  refine SX.forIn ok (fun i σ => ∃ d ps va, σ = [(tk "part", .val (.list (part.map .str))), (tk "depth", .val (.int d)), (tk "places", .own (nats ps)), (tk "at", va)] ∧ ps ++ outGo d i (part.drop i) = outside part)
    (IT.range (n := part.length) ev g_range (.one (EV.cast (EV.len ev g_len (.one (EV.name ev (by walk_at "loc")) (fun _ => rfl)) (by simp; omega)) (by simp)) (fun _ => rfl)) (by omega)) ⟨0, [], _, rfl, rfl⟩ ?_ ?_ (fun _ => rfl)
  · rintro i dd σ₁ hd ⟨d, ps, va, rfl, hinv⟩
    obtain ⟨rfl, hi⟩ := upto_get hd
    refine ⟨_, by walk_at "upd", ?_⟩
    have hti : part[i]? = some part[i] := by simp [hi]
    have hdrop : part.drop i = part[i] :: part.drop (i + 1) := List.drop_eq_getElem_cons hi
    generalize part[i] = t at hti hdrop
    have hps : ps.length ≤ 1000 := by
      have h1 := outside_length part
      have h2 := congrArg List.length hinv
      rw [List.length_append] at h2
      omega
    have hit : ∀ d ps p q z, EV c [(tk "part", .val (.list (part.map .str))), (tk "depth", d), (tk "places", ps), (tk "at", .val (.int (i : Int)))] (.Subscript (.Name (tk "part") p) (.Name (tk "at") q) z) (.str t) := fun d ps p q z =>
      EV.item (EV.name ev (by walk_at "loc")) (EV.name ev (by walk_at "loc")) (by omega) (by simp; omega) (by simp; omega) (by rw [idx_nat]; simp [hti]) (fun _ _ => rfl)
    rw [hdrop] at hinv
    unfold outGo at hinv
    refine SX.join (b := t == tk "(") (fun σ => σ = [(tk "part", .val (.list (part.map .str))), (tk "depth", .val (.int (if t = tk "(" then d + 1 else d))), (tk "places", .own (nats ps)), (tk "at", .val (.int (i : Int)))]) (EVB.compare (hit _ _ _ _ _) EV.const_str OP2.eq_str rfl) (fun hb => ?_) (fun hb => ?_) ?_
    · rw [if_pos (eq_of_beq hb)]
      refine SX.aug ok (by walk_at "loc") EV.const_int OP2.iadd_int (by walk_at "upd") ?_
      exact SX.nil rfl
    · rw [if_neg (ne_of_beq hb)]
      exact SX.nil rfl
    rintro σ₂ rfl
    dsimp only at hinv
    generalize (if t = tk "(" then d + 1 else d) = d1 at hinv ⊢
    refine SX.join (b := d1 == 0) (fun σ => σ = [(tk "part", .val (.list (part.map .str))), (tk "depth", .val (.int d1)), (tk "places", .own (nats (ps ++ if d1 = 0 then [i] else []))), (tk "at", .val (.int (i : Int)))]) (EVB.compare (EV.name ev (by walk_at "loc")) EV.const_int OP2.eq_int rfl) (fun hb => ?_) (fun hb => ?_) ?_
    · rw [if_pos (by simpa using hb)]
      refine SX.append ok (by walk_at "loc") (EV.name ev (by walk_at "loc")) (by walk_at "upd") (by simp [nats]; omega) rfl rfl rfl ?_
      exact SX.nil (by show _ = _; simp [nats])
    · rw [if_neg (by simpa using hb)]
      exact SX.nil (by show _ = _; simp)
    rintro σ₃ rfl
    refine SX.ite (b := t == tk ")") (EVB.compare (hit _ _ _ _ _) EV.const_str OP2.eq_str rfl) (fun hb => ?_) (fun hb => ?_)
    · rw [if_pos (eq_of_beq hb)] at hinv
      refine SX.aug ok (by walk_at "loc") EV.const_int OP2.isub_int (by walk_at "upd") ?_
      exact SX.nil (SX.nil ⟨_, _, _, rfl, by rw [List.append_assoc]; exact hinv⟩)
    · rw [if_neg (ne_of_beq hb)] at hinv
      exact SX.nil (SX.nil ⟨_, _, _, rfl, by rw [List.append_assoc]; exact hinv⟩)
  · rintro σ₁ ⟨d, ps, va, rfl, hinv⟩
    rw [upto_length, List.drop_length] at hinv
    simp only [outGo, List.append_nil] at hinv
    subst hinv
    refine SX.freeze (x := tk "places") (by walk_at "loc") (by walk_at "upd") ?_
    exact SX.ret (EV.name ev (by walk_at "loc")) rfl
theorem colon_fn {w : World} {h₁ : Heap} {mg mb : Str → Option Value} (KX : (hd.heap_39 w.params).In h₁) (st : Stat h₁ mg mb) (part : List Str) (places : List Nat) (hn : part.length ≤ 1000) (hp : ∀ i ∈ places, i < part.length) : FN prg w h₁ 134 1 [dstrs part, .list (nats places)] (.int (colonOf part places)) := by
  refine FN.of_body (params := [tk "part", tk "places"]) (names := [tk "waiting", tk "at"]) st (KX 134 _ rfl) rfl (codeRec_of KX rfl) rfl rfl rfl rfl rfl (bind_two fun _ _ => rfl) (by decide) (by decide) (by decide) rfl rfl rfl ?_
  intro c ok is hs hdp hun
  have ev := ok.toEv
  show SX c _ [(tk "part", .val (.list (part.map .str))), (tk "places", .val (.list (nats places))), (tk "waiting", .un), (tk "at", .un)] _ _
  refine SX.assign ok EV.const_int (by walk_at "upd") rfl ?_
  refine SX.forIn ok (fun i σ => ∃ n va, σ = [(tk "part", .val (.list (part.map .str))), (tk "places", .val (.list (nats places))), (tk "waiting", .val (.int n)), (tk "at", va)] ∧ colonGo part n (places.drop i) = colonOf part places)
    (IT.list ev (EV.name ev (by walk_at "loc"))) ⟨0, _, rfl, rfl⟩ ?_ ?_ (fun _ => rfl)
  · rintro i dd σ₁ hd ⟨n, va, rfl, hinv⟩
    unfold nats at hd
    rw [List.getElem?_map, Option.map_eq_some_iff] at hd
    obtain ⟨at_, hat, rfl⟩ := hd
    refine ⟨_, by walk_at "upd", ?_⟩
    have hlt := hp at_ (List.mem_of_getElem? hat)
    have hti : part[at_]? = some part[at_] := by simp [hlt]
    have hdrop : places.drop i = at_ :: places.drop (i + 1) := by
      obtain ⟨h1, h2⟩ := List.getElem?_eq_some_iff.mp hat
      rw [List.drop_eq_getElem_cons h1, h2]
    generalize part[at_] = t at hti
    have hit : ∀ d p q z, EV c [(tk "part", .val (.list (part.map .str))), (tk "places", .val (.list (nats places))), (tk "waiting", d), (tk "at", .val (.int (at_ : Int)))] (.Subscript (.Name (tk "part") p) (.Name (tk "at") q) z) (.str t) := fun d p q z =>
      EV.item (EV.name ev (by walk_at "loc")) (EV.name ev (by walk_at "loc")) (by omega) (by simp; omega) (by simp; omega) (by rw [idx_nat]; simp [hti]) (fun _ _ => rfl)
    rw [hdrop] at hinv
    unfold colonGo at hinv
    rw [hti] at hinv
    refine SX.ite (b := t == tk "?") (EVB.compare (hit _ _ _ _) EV.const_str OP2.eq_str rfl) (fun hb => ?_) (fun hb => ?_)
    · rw [if_pos (by rw [eq_of_beq hb])] at hinv
      refine SX.aug ok (by walk_at "loc") EV.const_int OP2.iadd_int (by walk_at "upd") ?_
      exact SX.nil (SX.nil ⟨_, _, rfl, hinv⟩)
    · rw [if_neg (fun e => ne_of_beq hb (Option.some.inj e))] at hinv
      refine SX.ite (b := t == tk ":") (EVB.compare (hit _ _ _ _) EV.const_str OP2.eq_str rfl) (fun hb2 => ?_) (fun hb2 => ?_)
      · rw [if_pos (by rw [eq_of_beq hb2])] at hinv
        refine SX.aug ok (by walk_at "loc") EV.const_int OP2.isub_int (by walk_at "upd") ?_
        refine SX.ite (b := n - 1 == 0) (EVB.compare (EV.name ev (by walk_at "loc")) EV.const_int OP2.eq_int rfl) (fun hb3 => ?_) (fun hb3 => ?_)
        · rw [if_pos (by simpa using hb3)] at hinv
          refine SX.ret (EV.name ev (by walk_at "loc")) ?_
          show AFlow.ret (D.int (at_ : Int)) = _
          rw [hinv]
        · rw [if_neg (by simpa using hb3)] at hinv
          exact SX.nil (SX.nil (SX.nil (SX.nil ⟨_, _, rfl, hinv⟩)))
      · rw [if_neg (fun e => ne_of_beq hb2 (Option.some.inj e))] at hinv
        exact SX.nil (SX.nil (SX.nil ⟨_, _, rfl, hinv⟩))
  · rintro σ₁ ⟨n, va, rfl, hinv⟩
    rw [show (nats places).length = places.length by simp [nats], List.drop_length] at hinv
    refine SX.ret (EV.neg EV.const_int) ?_
    show AFlow.ret (D.int (-1)) = _
    rw [← hinv]; rfl
end Mine
namespace Mine
section
variable {c : Cfg} {σ σ' σ₁ σ₂ : Sig} {E : ERes} {EE : Value → Shared → Prop} {Φ : AFlow → Sig → Prop} {rest : List Stmt}
/-- a dict display of written texts -/
noncomputable def TB (c : Cfg) (σ : Sig) (e : Expr) (D' : List (PyData × PyData)) : Prop :=
  ∀ (k : G) (N : Addr → Prop) (g : G) (m : Str → Option Value) (s : Shared) (Q E : Value → Shared → Prop), W c k N g m σ s.heap →
    (∀ d h' tk, Keep s.heap h' → StrTab c.prog c.w h' d D' → Q (.ref d) { s with heap := h', toks := tk }) → wpAny c.M c.A (eval e c.env) Q E s
inductive Disp : List (Option Expr) → List Expr → List (Str × Str) → Prop where
  | nil : Disp [] [] []
  | cons {x y : Str} {k k' : Nat} {p p' : Pos} {ks : List (Option Expr)} {vs : List Expr} {ps : List (Str × Str)} : Disp ks vs ps → Disp (some (.Constant (.str x) k p) :: ks) (.Constant (.str y) k' p' :: vs) ((x, y) :: ps)
inductive DV : List (Value × Value) → List (Str × Str) → Prop where
  | nil : DV [] []
  | cons {x y : Str} {t u : Tok} {vs : List (Value × Value)} {ps : List (Str × Str)} : DV vs ps → DV ((.str x t, .str y u) :: vs) ((x, y) :: ps)
theorem Disp.run {ks : List (Option Expr)} {vs : List Expr} {ps : List (Str × Str)} (h : Disp ks vs ps) {env : Env} {pos : Pos} : ∀ {s : Shared} {Q : List (Value × Value) → Shared → Prop}, (∀ us tk, DV us ps → Q us { s with toks := tk }) → wpAny c.M c.A (evalPairs (pairTrees ks vs env pos)) Q EE s := by
  induction h with
  | nil => intro s Q q; exact pairTrees_nil_walk (q [] s.toks .nil)
  | cons h ih =>
    intro s Q q
    refine pairTrees_cons_walk (Calls.Constant_str (Calls.Constant_str (ih fun us tk hd => ?_)))
    exact q _ tk (.cons hd)
theorem DV.keys {us : List (Value × Value)} {ps : List (Str × Str)} (h : DV us ps) : allStrKeys us = true ∧ (strPairs us).map (·.1) = ps.map (·.1) ∧ V.FlatPairs PyData.str (strPairs us) (ps.map fun p => (.str p.1, .str p.2)) := by
  induction h with
  | nil => exact ⟨rfl, rfl, .nil⟩
  | cons h ih => exact ⟨ih.1, by simp [strPairs, ih.2.1], .cons (V.Flat.str _ _) ih.2.2⟩
theorem TB.disp (hst : Stat c.h₁ c.mg c.mb) {ks : List (Option Expr)} {vs : List Expr} {ps : List (Str × Str)} {pos : Pos} (h : Disp ks vs ps) (hall : ks.all (·.isSome) = true) (hl : ks.length = vs.length) (h0 : ks ≠ []) (hlen : ks.length ≤ 15) (hn : (ps.map (·.1)).Nodup) :
    TB c σ (.Dict ks vs pos) (ps.map fun p => (.str p.1, .str p.2)) := by
  intro k N g m s Q E w q
  refine wpAny_Dict_walk (knd := PySem.strKind c.prog c.w) hall hl h0 hlen (h.run fun us tk hd => ?_)
  obtain ⟨h1, h2, h3⟩ := hd.keys
  refine display_done_str h1 (by rw [h2]; exact hn) (Heap.DictOf.new _) fun h' hdict hs => ?_
  refine q _ h' _ (fun b o e => ?_) ⟨?_, strPairs us, hdict, h3⟩
  · rw [hs.2 b (Nat.ne_of_lt (Heap.lt_size e))]; exact Heap.get?_push_of_some _ e
  · rw [beq_eq_false_iff_ne]
    intro e
    obtain ⟨o, _, _, ho, _⟩ := (w.keep₁ · · · : Keep c.h₁ s.heap) |> fun kk => (hst.g.keeps kk)
    have h1 := Heap.lt_size ho
    have h2 : (mainGlobals : Nat) = 3 := by decide +kernel
    have h3 : (sysModules : Nat) = 1 := by decide +kernel
    have h1' : (mainGlobals : Nat) < s.heap.objs.size := h1
    have e' : (s.heap.objs.size : Nat) = (sysModules : Nat) := e
    rw [h2] at h1'; rw [h3] at e'
    exact absurd h1' (by rw [e']; decide)
theorem TB.get {v e e' : Expr} {D' : List (PyData × PyData)} {p' pos : Pos} {y z : Str} (ht : TB c σ v D') (he : EVs c σ [e, e'] [.str y, .str z]) {r : Str} (hr : (Spec.lookup (.str y) D').getD (.str z) = .str r)
    (hbase : attributeBase v "get" c.env (eval v c.env) = eval v c.env) (hline : (p'.endLine == pos.line) = true) : EV c σ (.Call (.Attribute v "get" p') [e, e'] [] pos) (.str r) := by
  intro k N g m s Q E w h
  refine wpAny_Call_method_lateS hbase (by rw [he.plain]; rfl) hline (ht k N g m s _ _ w fun d h₀ t₀ k₀ T => ?_)
  have T₀ := T
  obtain ⟨lo, kvs, hd, hf⟩ := T₀
  obtain ⟨o, es, ep, ho, hex, hr'⟩ := id hd
  refine ⟨"dict", "dict.get", PySem.F.plainAttrs_dict, PySem.F.slot_dict_get, PySem.F.type_dict_get, hd.typeIs, fun b e => ?_, ?_⟩
  · cases e; exact ⟨o, ho, hex.2.1⟩
  · refine Calls.callWith_builtin he.noStar (he.args k N g m _ _ (w.keep k₀) fun vs h₁ g₁ t₁ k₁ w₁ l₁ r₁ => ?_)
    cases r₁ with
    | cons r₁ r₂ => cases r₂ with
      | cons r₂ r₃ =>
        cases r₃; cases r₁; cases r₂
        refine call_get2_strTab (T.keep k₁) (V.Flat.str _ _) fun v hv => ?_
        rw [hr] at hv
        exact h v h₁ g₁ _ (k₀.trans k₁) w₁ l₁ (rep_flat hv (.inr ⟨_, rfl⟩))
end
end Mine
namespace Mine
/-- formulas -/
inductive Tr where
  | nm (k : Nat) (t : Str)
  | par (k : Nat) (e : Tr)
  | bin (o : Str) (l r : Tr)
  | cond (c t f : Tr)
noncomputable def lvo (o : Str) : Int := (lvl o).getD 0
noncomputable def Tr.lv : Tr → Int
  | .nm _ _ | .par _ _ => 100
  | .bin o _ _ => lvo o
  | .cond _ _ _ => 0
noncomputable def nots (k : Nat) : List Str := List.replicate k (tk "!")
noncomputable def Tr.flat : Tr → List Str
  | .nm k t => nots k ++ [t]
  | .par k e => nots k ++ tk "(" :: (e.flat ++ [tk ")"])
  | .bin o l r => l.flat ++ o :: r.flat
  | .cond c t f => c.flat ++ tk "?" :: (t.flat ++ tk ":" :: f.flat)
noncomputable def wrap (q : Int) (e : Tr) (x : Str) : Str := if q = e.lv ∧ (q = 4 ∨ q = 0) then paren x else x
noncomputable def Tr.tx : Tr → Str
  | .nm k t => notTxt k ++ num t
  | .par k e => notTxt k ++ tk "(" ++ e.tx ++ tk ")"
  | .bin o l r => (if isCmp (lvo o) && isCmp l.lv then paren l.tx else l.tx) ++ tk " " ++ pyOp o ++ tk " " ++ wrap (lvo o + 1) r r.tx
  | .cond c t f => wrap 0 t t.tx ++ tk " if " ++ c.tx ++ tk " else " ++ f.tx
noncomputable def Tr.txt (q : Int) (e : Tr) : Str := wrap q e e.tx
noncomputable def Atm (t : Str) : Prop := t = tk "n" ∨ Txt.isdigit t = true
noncomputable def Tr.WF : Tr → Prop
  | .nm _ t => Atm t
  | .par _ e => e.WF
  | .bin o l r => (lvl o).isSome = true ∧ l.WF ∧ r.WF ∧ lvo o ≤ l.lv ∧ lvo o < r.lv
  | .cond c t f => c.WF ∧ t.WF ∧ f.WF ∧ 1 ≤ c.lv
structure Tok (t : Str) : Prop where
  dig : Txt.isdigit t = (PySem.intText? t).isSome
  num : ∀ n, PySem.intText? t = some n → dec n = num t
noncomputable def Ends (q : Int) (nx : Str) : Prop := (∀ i, lvl nx = some i → i < q) ∧ (nx = tk "?" → 0 < q)
inductive WRes where
  | ok (nx : Str) (rest : List Str)
  | bad (m : Str) (rest : List Str)
  | out
noncomputable def wk (p : Int) : List Str → Bool → List Str → WRes
  | _, _, [] => .out
  | st, true, t :: r =>
    if t = tk "(" then wk p (tk "(" :: st) true r
    else if t = tk "n" ∨ Txt.isdigit t = true then wk p st false r
    else if t = tk "!" then wk p st true r
    else .bad (errMsg t) r
  | st, false, t :: r =>
    if 0 < lvo t ∧ (st ≠ [] ∨ p ≤ lvo t) then wk p st true r
    else if t = tk "?" ∧ (st ≠ [] ∨ p ≤ 0) then wk p (tk "?" :: st) true r
    else match st with
      | [] => .ok t r
      | x :: st' =>
        if x = tk "(" then (if t = tk ")" then wk p st' false r else .bad unbal r)
        else if t = tk ":" then wk p st' true r else .bad (errMsg t) r
theorem skipNots_eq : ∀ toks : List Str, toks = nots (skipNots toks).1 ++ (skipNots toks).2
  | [] => rfl
  | t :: r => by
    unfold skipNots
    split
    · next h => rw [h]; show _ = tk "!" :: (nots (skipNots r).1 ++ (skipNots r).2); rw [← skipNots_eq r]
    · rfl
theorem wk_nots (p : Int) (st : List Str) : ∀ (k : Nat) (r : List Str), wk p st true (nots k ++ r) = wk p st true r
  | 0, _ => rfl
  | k + 1, r => by
    show wk p st true (tk "!" :: (nots k ++ r)) = _
    rw [← wk_nots p st k r]
    rw [wk, if_neg (by decide +kernel), if_neg (by decide +kernel), if_pos rfl]
theorem lvo_eq {o : Str} {i : Int} (h : lvl o = some i) : lvo o = i := by simp [lvo, h]
theorem lvo_none {o : Str} (h : lvl o = none) : lvo o = 0 := by simp [lvo, h]
/-- when the walk at (p, st) allows what a reading at q takes -/
noncomputable def Cmpt (p : Int) (st : List Str) (q : Int) : Prop := st ≠ [] ∨ p ≤ q ∨ p ≤ 0
theorem wk_op {p : Int} {st : List Str} {q i : Int} {t : Str} {r : List Str} (hc : Cmpt p st q) (h : lvl t = some i) (hi : q ≤ i) : wk p st false (t :: r) = wk p st true r := by
  have := lvl_range h
  rw [wk.eq_def]; dsimp only; rw [if_pos]
  rw [lvo_eq h]
  refine ⟨by omega, ?_⟩
  rcases hc with h1 | h1 | h1
  · exact .inl h1
  · exact .inr (by omega)
  · exact .inr (by omega)
theorem lvl_q : lvl (tk "?") = none := by decide +kernel
theorem lvl_d : lvl (tk ":") = none := by decide +kernel
theorem wk_q {p : Int} {st : List Str} {q : Int} {r : List Str} (hc : Cmpt p st q) (hi : q ≤ 0) : wk p st false (tk "?" :: r) = wk p (tk "?" :: st) true r := by
  have h2 : st ≠ [] ∨ p ≤ 0 := by
    rcases hc with h1 | h1 | h1
    · exact .inl h1
    · exact .inr (by omega)
    · exact .inr (by omega)
  rw [wk.eq_def]; dsimp only; rw [if_neg (by rw [lvo_none lvl_q]; simp), if_pos ⟨rfl, h2⟩]
theorem wk_end {p : Int} {x : Str} {st : List Str} {t : Str} {r : List Str} {q : Int} (he : Ends q t) (hq : q ≤ 0) : wk p (x :: st) false (t :: r) = if x = tk "(" then (if t = tk ")" then wk p st false r else .bad unbal r) else if t = tk ":" then wk p st true r else .bad (errMsg t) r := by
  have h0 : lvl t = none := by
    cases h : lvl t with
    | none => rfl
    | some i => have := he.1 i h; have := lvl_range h; omega
  rw [wk, if_neg (by rw [lvo_none h0]; simp), if_neg (fun h => by have := he.2 h.1; omega)]
theorem wk_stop {t : Str} {r : List Str} {q : Int} (he : Ends q t) : wk q [] false (t :: r) = .ok t r := by
  rw [wk, if_neg, if_neg]
  · intro h; have := he.2 h.1; rcases h.2 with h | h
    · exact h rfl
    · omega
  · intro h
    cases h1 : lvl t with
    | none => rw [lvo_none h1] at h; omega
    | some i => have := he.1 i h1; rw [lvo_eq h1] at h; rcases h.2 with h | h
                · exact h rfl
                · omega
noncomputable def Agree (q : Int) (hd : List Str) (due : Bool) (toks : List Str) : PRes → Prop
  | .ok text nx rest => (∃ e : Tr, e.WF ∧ q ≤ e.lv ∧ hd ++ toks = e.flat ++ nx :: rest ∧ text = e.txt q ∧ Ends q nx) ∧ rest.length < toks.length ∧ (∀ t ∈ rest, t ∈ toks) ∧ ∀ p st, Cmpt p st q → wk p st due toks = wk p st false (nx :: rest)
  | .bad m rest => ∀ p st, Cmpt p st q → wk p st due toks = .bad m rest
  | .out => ∀ p st, Cmpt p st q → wk p st due toks = .out
theorem run_wk : ∀ (f : Nat) (m : Mode) (toks : List Str), (∀ t ∈ toks, Tok t) →
  match m with
  | .start q => q ≤ 100 → 2 * toks.length < f → Agree q [] true toks (run f m toks)
  | .loop q res j nx => 2 * toks.length + 2 < f → ∀ e : Tr, e.WF → q ≤ e.lv → 1 ≤ e.lv → res = e.tx → j = e.lv → (∀ i, lvl nx = some i → i ≤ j) → Agree q e.flat false (nx :: toks) (run f m toks)
  | .tail q res nx => 2 * toks.length + 1 < f → ∀ e : Tr, e.WF → q ≤ e.lv → 1 ≤ e.lv → res = e.txt q → (∀ i, lvl nx = some i → i < q) → Agree q e.flat false (nx :: toks) (run f m toks) := by
  intro f
  induction f with
  | zero => intro m toks _; cases m <;> intros <;> omega
  | succ f ih =>
    intro m toks hT
    cases m with
    | start q =>
      intro hq100 hf
      unfold run
      have hsk := skipNots_eq toks
      have hnb : ∀ t r, (skipNots toks).2 = t :: r → t ≠ tk "!" := by
        clear hf hsk hT
        induction toks with
        | nil => intro t r h; simp [skipNots] at h
        | cons a b ih2 =>
          intro t r h
          unfold skipNots at h
          split at h
          · exact ih2 t r h
          · next h1 => injection h with h2 _; rw [← h2]; exact h1
      rcases hk : skipNots toks with ⟨k, r₀⟩
      rw [hk] at hsk hnb
      dsimp only at hsk hnb ⊢
      have hlen : toks.length = k + r₀.length := by rw [hsk]; simp [nots]
      have hwk : ∀ p st, wk p st true toks = wk p st true r₀ := fun p st => by rw [hsk]; exact wk_nots p st k r₀
      cases r₀ with
      | nil => exact fun p st _ => by rw [hwk]; rfl
      | cons t r =>
        have hnb := hnb t r rfl
        have hTt : Tok t := hT t (by rw [hsk]; simp)
        have hTr : ∀ x ∈ r, Tok x := fun x hx => hT x (by rw [hsk]; simp [hx])
        simp only [List.length_cons] at hlen
        -- the way on behind an operand
        have after : ∀ (e : Tr) (nx' : Str) (r'' : List Str), e.WF → e.lv = 100 → (∀ x ∈ nx' :: r'', x ∈ toks) → toks = e.flat ++ nx' :: r'' → r''.length + 2 ≤ toks.length → (∀ p st, wk p st true toks = wk p st false (nx' :: r'')) → (q ≤ 100) →
            Agree q [] true toks (run f (.loop q e.tx 100 nx') r'') := by
          intro e nx' r'' he hl hm heq hlt hw hq
          have := ih (.loop q e.tx 100 nx') r'' (fun x hx => hT x (hm x (.tail _ hx))) (by omega) e he (by omega) (by omega) rfl hl.symm (fun i hi => by have := lvl_range hi; omega)
          cases hrun : run f (.loop q e.tx 100 nx') r'' with
          | ok text nx rest =>
            rw [hrun] at this
            obtain ⟨⟨e', h1, h2, h3, h4, h5⟩, h6, h7, h8⟩ := this
            refine ⟨⟨e', h1, h2, by rw [← h3]; exact heq, h4, h5⟩, ?_, fun x hx => hm x (h7 x hx), fun p st hc => by rw [hw]; exact h8 p st hc⟩
            simp only [List.length_cons] at h6; omega
          | bad m rest => rw [hrun] at this; exact fun p st hc => by rw [hw]; exact this p st hc
          | out => rw [hrun] at this; exact fun p st hc => by rw [hw]; exact this p st hc
        have go : ∀ (e : Tr) (r' : List Str), e.WF → e.lv = 100 → (∀ x ∈ r', x ∈ toks) → toks = e.flat ++ r' → r'.length < toks.length → (∀ p st, wk p st true toks = wk p st false r') →
            Agree q [] true toks (match r' with | [] => PRes.out | nx' :: r'' => run f (.loop q e.tx 100 nx') r'') := by
          intro e r' h1 h2 h3 h4 h5 h6
          cases r' with
          | nil => exact fun p st _ => by rw [h6]; rfl
          | cons nx' r'' => exact after e nx' r'' h1 h2 h3 h4 (by simp only [List.length_cons] at h5; omega) h6 hq100
        dsimp only
        by_cases h1 : t = tk "("
        · rw [if_pos h1]
          subst h1
          have sub := ih (.start (-1)) r hTr (by omega) (by omega)
          have hpar : ∀ p st, wk p st true toks = wk p (tk "(" :: st) true r := fun p st => by rw [hwk, wk, if_pos rfl]
          cases hrun : run f (.start (-1)) r with
          | ok text nx rest =>
            rw [hrun] at sub
            obtain ⟨⟨e, a1, a2, a3, a4, a5⟩, a6, a7, a8⟩ := sub
            have hw2 : ∀ p st, wk p st true toks = _ := fun p st => by rw [hpar, a8 p _ (.inl (by simp)), wk_end a5 (by omega), if_pos rfl]
            dsimp only
            by_cases h2 : nx = tk ")"
            · rw [if_pos h2]
              have hx : text = e.tx := by rw [a4]; exact if_neg (by omega)
              have := go (.par k e) rest a1 rfl (fun x hx => by rw [hsk]; simp [a7 x hx]) (by rw [hsk]; simp only [Tr.flat]; rw [List.nil_append] at a3; rw [a3, h2]; simp) (by omega) (fun p st => by rw [hw2, if_pos h2])
              rw [show (notTxt k ++ tk "(" ++ text ++ tk ")") = (Tr.par k e).tx by rw [hx]; rfl]
              exact this
            · rw [if_neg h2]
              exact fun p st _ => by rw [hw2, if_neg h2]
          | bad m rest => rw [hrun] at sub; exact fun p st _ => by rw [hpar]; exact sub p _ (.inl (by simp))
          | out => rw [hrun] at sub; exact fun p st _ => by rw [hpar]; exact sub p _ (.inl (by simp))
        · rw [if_neg h1]
          by_cases h2 : t = tk "n"
          · rw [if_pos h2]
            subst h2
            have := go (.nm k (tk "n")) r (.inl rfl) rfl (fun x hx => by rw [hsk]; simp [hx]) (by rw [hsk]; simp [Tr.flat]) (by omega) (fun p st => by rw [hwk, wk, if_neg h1, if_pos (.inl rfl)])
            rw [show notTxt k ++ tk "n" = (Tr.nm k (tk "n")).tx by show _ = notTxt k ++ num (tk "n"); rw [show num (tk "n") = tk "n" by decide +kernel]]
            exact this
          · rw [if_neg h2]
            cases hi : PySem.intText? t with
            | some n =>
              have hd : Txt.isdigit t = true := by rw [hTt.dig, hi]; rfl
              have := go (.nm k t) r (.inr hd) rfl (fun x hx => by rw [hsk]; simp [hx]) (by rw [hsk]; simp [Tr.flat]) (by omega) (fun p st => by rw [hwk, wk, if_neg h1, if_pos (.inr hd)])
              dsimp only
              rw [show notTxt k ++ dec n = (Tr.nm k t).tx by show _ = notTxt k ++ num t; rw [hTt.num n hi]]
              exact this
            | none =>
              refine fun p st _ => ?_
              rw [hwk, wk, if_neg h1, if_neg, if_neg hnb]
              rintro (h | h)
              · exact h2 h
              · rw [hTt.dig, hi] at h; simp at h
    | loop q res j nx =>
      intro hf e hw hq h1 hres hj hlast
      unfold run
      have tl : (∀ i, lvl nx = some i → i < q) → Agree q e.flat false (nx :: toks) (run f (.tail q (if j = q ∧ q = 4 then paren res else res) nx) toks) := by
        intro hlt
        refine ih (.tail q _ nx) toks hT (by omega) e hw hq h1 ?_ hlt
        rw [hres, hj]
        unfold Tr.txt wrap
        by_cases h : e.lv = q ∧ q = 4
        · rw [if_pos h, if_pos ⟨h.1.symm, .inl h.2⟩]
        · rw [if_neg h, if_neg]
          rintro ⟨a, b | b⟩
          · exact h ⟨a.symm, b⟩
          · omega
      cases hl : lvl nx with
      | none => exact tl (fun i hi => by rw [hl] at hi; cases hi)
      | some i =>
        dsimp only
        have hr := lvl_range hl
        by_cases hiq : i < q
        · rw [if_pos hiq]; exact tl (fun i' hi' => by rw [hl] at hi'; cases hi'; exact hiq)
        · rw [if_neg hiq]
          have hiq : q ≤ i := by omega
          have sub := ih (.start (i + 1)) toks hT (by omega) (by omega)
          have cm : ∀ p st, Cmpt p st q → Cmpt p st (i + 1) := fun p st h => by
            rcases h with h | h | h
            · exact .inl h
            · exact .inr (.inl (by omega))
            · exact .inr (.inr h)
          cases hrun : run f (.start (i + 1)) toks with
          | ok right nx' rest =>
            rw [hrun] at sub
            obtain ⟨⟨e', a1, a2, a3, a4, a5⟩, a6, a7, a8⟩ := sub
            rw [List.nil_append] at a3
            dsimp only
            have := ih (.loop q ((if isCmp i && isCmp j then paren res else res) ++ tk " " ++ pyOp nx ++ tk " " ++ right) i nx') rest (fun x hx => hT x (a7 x hx)) (by omega) (.bin nx e e') ⟨by rw [hl]; rfl, hw, a1, by rw [lvo_eq hl, ← hj]; exact hlast i hl, by rw [lvo_eq hl]; omega⟩
              (by show q ≤ lvo nx; rw [lvo_eq hl]; exact hiq) (by show 1 ≤ lvo nx; rw [lvo_eq hl]; omega) (by rw [Tr.tx, lvo_eq hl, hres, hj, a4]; rfl) (by show i = lvo nx; rw [lvo_eq hl]) (fun i' hi' => by have := a5.1 i' hi'; omega)
            have hfl : (Tr.bin nx e e').flat ++ nx' :: rest = e.flat ++ nx :: toks := by rw [a3]; simp [Tr.flat]
            cases hrun2 : run f (.loop q ((if isCmp i && isCmp j then paren res else res) ++ tk " " ++ pyOp nx ++ tk " " ++ right) i nx') rest with
            | ok text nx₂ rest₂ =>
              rw [hrun2] at this
              obtain ⟨⟨e₂, b1, b2, b3, b4, b5⟩, b6, b7, b8⟩ := this
              refine ⟨⟨e₂, b1, b2, by rw [← hfl]; exact b3, b4, b5⟩, ?_, fun x hx => ?_, fun p st hc => ?_⟩
              · simp only [List.length_cons] at b6 ⊢; omega
              · rcases List.mem_cons.mp (b7 x hx) with h | h
                · rw [a3, h]; simp
                · exact .tail _ (a7 x h)
              · rw [wk_op hc hl hiq, a8 p st (cm p st hc), b8 p st hc]
            | bad m rest₂ => rw [hrun2] at this; exact fun p st hc => by rw [wk_op hc hl hiq, a8 p st (cm p st hc)]; exact this p st hc
            | out => rw [hrun2] at this; exact fun p st hc => by rw [wk_op hc hl hiq, a8 p st (cm p st hc)]; exact this p st hc
          | bad m rest => rw [hrun] at sub; exact fun p st hc => by rw [wk_op hc hl hiq]; exact sub p st (cm p st hc)
          | out => rw [hrun] at sub; exact fun p st hc => by rw [wk_op hc hl hiq]; exact sub p st (cm p st hc)
    | tail q res nx =>
      intro hf e hw hq h1 hres hlt
      unfold run
      by_cases hc : nx = tk "?" ∧ q ≤ 0
      · rw [if_pos hc]
        obtain ⟨hnx, hq0⟩ := hc
        subst hnx
        have hres' : res = e.tx := by rw [hres]; exact if_neg (by omega)
        have sub := ih (.start 0) toks hT (by omega) (by omega)
        cases hrun : run f (.start 0) toks with
        | ok yes nx1 r1 =>
          rw [hrun] at sub
          obtain ⟨⟨e1, a1, a2, a3, a4, a5⟩, a6, a7, a8⟩ := sub
          rw [List.nil_append] at a3
          have hw1 : ∀ p st, Cmpt p st q → wk p st false (tk "?" :: toks) = if nx1 = tk ":" then wk p st true r1 else .bad (errMsg nx1) r1 := fun p st hc => by
            rw [wk_q hc hq0, a8 p _ (.inl (by simp)), wk_end a5 (by omega), if_neg (by decide +kernel)]
          dsimp only
          by_cases h2 : nx1 = tk ":"
          · rw [if_pos h2]
            have sub2 := ih (.start (-1)) r1 (fun x hx => hT x (a7 x hx)) (by omega) (by omega)
            have cm : ∀ p st, Cmpt p st q → Cmpt p st (-1) := fun p st h => by
              rcases h with h | h | h
              · exact .inl h
              · exact .inr (.inr (by omega))
              · exact .inr (.inr h)
            cases hrun2 : run f (.start (-1)) r1 with
            | ok no nx2 r2 =>
              rw [hrun2] at sub2
              obtain ⟨⟨e2, b1, b2, b3, b4, b5⟩, b6, b7, b8⟩ := sub2
              rw [List.nil_append] at b3
              dsimp only
              refine ⟨⟨.cond e e1 e2, ⟨hw, a1, b1, h1⟩, hq0, ?_, ?_, ?_⟩, ?_, fun x hx => .tail _ (a7 x (b7 x hx)), fun p st hc => ?_⟩
              · rw [a3, h2, b3]; simp [Tr.flat]
              · have hno : no = e2.tx := by rw [b4]; exact if_neg (by omega)
                unfold Tr.txt
                unfold wrap
                rw [show (Tr.cond e e1 e2).lv = 0 from rfl]
                have htx : (Tr.cond e e1 e2).tx = yes ++ tk " if " ++ res ++ tk " else " ++ no := by rw [Tr.tx, a4, hres', hno]; rfl
                rw [htx]
                by_cases h0 : q = 0
                · rw [if_pos h0, if_pos ⟨h0, .inr h0⟩]
                · rw [if_neg h0, if_neg (fun h => h0 h.1)]
              · refine ⟨fun i hi => ?_, fun h => ?_⟩
                · have := b5.1 i hi; have := lvl_range hi; omega
                · have := b5.2 h; omega
              · simp only [List.length_cons]; omega
              · rw [hw1 p st hc, if_pos h2, b8 p st (cm p st hc)]
            | bad m rest => rw [hrun2] at sub2; exact fun p st hc => by rw [hw1 p st hc, if_pos h2]; exact sub2 p st (cm p st hc)
            | out => rw [hrun2] at sub2; exact fun p st hc => by rw [hw1 p st hc, if_pos h2]; exact sub2 p st (cm p st hc)
          · rw [if_neg h2]
            exact fun p st hc => by rw [hw1 p st hc, if_neg h2]
        | bad m rest => rw [hrun] at sub; exact fun p st hc => by rw [wk_q hc hq0]; exact sub p _ (.inl (by simp))
        | out => rw [hrun] at sub; exact fun p st hc => by rw [wk_q hc hq0]; exact sub p _ (.inl (by simp))
      · rw [if_neg hc]
        refine ⟨⟨e, hw, hq, rfl, hres, hlt, fun h => ?_⟩, by simp, fun x hx => .tail _ hx, fun p st _ => rfl⟩
        exact Int.not_le.mp fun h' => hc ⟨h, h'⟩
/-- a whole reading -/
theorem run_top {toks : List Str} (hT : ∀ t ∈ toks, Tok t) {q : Int} (hq : q ≤ 100) {f : Nat} (hf : 2 * toks.length < f) :
    match wk q [] true toks with
    | .ok nx rest => ∃ e : Tr, e.WF ∧ q ≤ e.lv ∧ toks = e.flat ++ nx :: rest ∧ Ends q nx ∧ run f (.start q) toks = .ok (e.txt q) nx rest
    | .bad m rest => run f (.start q) toks = .bad m rest
    | .out => run f (.start q) toks = .out := by
  have := run_wk f (.start q) toks hT hq hf
  cases hrun : run f (.start q) toks with
  | ok text nx rest =>
    rw [hrun] at this
    obtain ⟨⟨e, h1, h2, h3, h4, h5⟩, _, _, h6⟩ := this
    rw [h6 q [] (.inr (.inl (Int.le_refl _))), wk_stop h5]
    exact ⟨e, h1, h2, by simpa using h3, h5, by rw [h4]⟩
  | bad m rest => rw [hrun] at this; rw [this q [] (.inr (.inl (Int.le_refl _)))]
  | out => rw [hrun] at this; rw [this q [] (.inr (.inl (Int.le_refl _)))]
end Mine
namespace Mine
noncomputable def dIn (d : Int) (t : Str) : Int := if t = tk "(" then d + 1 else d
noncomputable def dOut (d : Int) (t : Str) : Int := if t = tk ")" then dIn d t - 1 else dIn d t
noncomputable def depGo : Int → List Str → Int
  | d, [] => d
  | d, t :: r => depGo (dOut d t) r
/-- the tokens outside of brackets, with their places -/
noncomputable def op : Int → Nat → List Str → List (Nat × Str)
  | _, _, [] => []
  | d, i, t :: r => (if dIn d t = 0 then [(i, t)] else []) ++ op (dOut d t) (i + 1) r
theorem outGo_op : ∀ (ts : List Str) (d : Int) (i : Nat), outGo d i ts = (op d i ts).map (·.1)
  | [], _, _ => rfl
  | t :: r, d, i => by
    show (if dIn d t = 0 then [i] else []) ++ outGo (dOut d t) (i + 1) r = _
    rw [outGo_op r, op, List.map_append]
    split <;> rfl
theorem op_append : ∀ (a b : List Str) (d : Int) (i : Nat), op d i (a ++ b) = op d i a ++ op (depGo d a) (i + a.length) b
  | [], _, _, _ => rfl
  | t :: r, b, d, i => by
    show (if dIn d t = 0 then [(i, t)] else []) ++ op (dOut d t) (i + 1) (r ++ b) = ((if dIn d t = 0 then [(i, t)] else []) ++ op (dOut d t) (i + 1) r) ++ op (depGo (dOut d t) r) _ b
    rw [op_append r b, List.append_assoc, List.length_cons, show i + 1 + r.length = i + (r.length + 1) by omega]
theorem depGo_append : ∀ (a b : List Str) (d : Int), depGo d (a ++ b) = depGo (depGo d a) b
  | [], _, _ => rfl
  | t :: r, b, d => depGo_append r b _
theorem op_mem : ∀ (ts : List Str) (d : Int) (i : Nat) (j : Nat) (t : Str), (j, t) ∈ op d i ts → i ≤ j ∧ ts[j - i]? = some t
  | [], _, _, _, _, h => by simp [op] at h
  | t :: r, d, i, j, u, h => by
    rw [op] at h
    rcases List.mem_append.mp h with h | h
    · split at h
      · have := List.mem_singleton.mp h; cases this; simp
      · cases h
    · obtain ⟨h1, h2⟩ := op_mem r _ _ _ _ h
      refine ⟨by omega, ?_⟩
      rw [show j - i = (j - (i + 1)) + 1 by omega]; simpa using h2
/-- balanced brackets -/
noncomputable def Bal (a : List Str) : Prop := ∀ d, 0 ≤ d → depGo d a = d ∧ (1 ≤ d → ∀ i, op d i a = [])
noncomputable def Plain (t : Str) : Prop := t ≠ tk "(" ∧ t ≠ tk ")"
theorem Bal.nil : Bal [] := fun _ _ => ⟨rfl, fun _ _ => rfl⟩
theorem Bal.append {a b : List Str} (ha : Bal a) (hb : Bal b) : Bal (a ++ b) := fun d hd => by
  refine ⟨by rw [depGo_append, (ha d hd).1, (hb d hd).1], fun h1 i => ?_⟩
  rw [op_append, (ha d hd).1, (ha d hd).2 h1, (hb d hd).2 h1]; rfl
theorem dIn_plain {t : Str} (h : Plain t) (d : Int) : dIn d t = d := if_neg h.1
theorem dOut_plain {t : Str} (h : Plain t) (d : Int) : dOut d t = d := by rw [dOut, if_neg h.2, dIn_plain h]
theorem Bal.cons {t : Str} (ht : Plain t) {a : List Str} (ha : Bal a) : Bal (t :: a) := fun d hd => by
  refine ⟨by rw [depGo, dOut_plain ht]; exact (ha d hd).1, fun h1 i => ?_⟩
  rw [op, dIn_plain ht, if_neg (by omega), dOut_plain ht]; exact (ha d hd).2 h1 _
theorem Bal.wrap {a : List Str} (ha : Bal a) : Bal (tk "(" :: (a ++ [tk ")"])) := fun d hd => by
  have h1 : dOut d (tk "(") = d + 1 := by rw [dOut, if_neg (by decide +kernel), dIn, if_pos rfl]
  have h2 : dIn d (tk "(") = d + 1 := by rw [dIn, if_pos rfl]
  have h3 : dOut (d + 1) (tk ")") = d := by rw [dOut, if_pos rfl, dIn, if_neg (by decide +kernel)]; omega
  have h4 : dIn (d + 1) (tk ")") = d + 1 := by rw [dIn, if_neg (by decide +kernel)]
  refine ⟨by rw [depGo, h1, depGo_append, (ha (d + 1) (by omega)).1]; exact h3, fun _ i => ?_⟩
  rw [op, h2, if_neg (by omega), h1, op_append, (ha (d + 1) (by omega)).1, (ha (d + 1) (by omega)).2 (by omega)]
  show [] ++ ([] ++ ((if dIn (d + 1) (tk ")") = 0 then _ else []) ++ [])) = _
  rw [h4, if_neg (by omega)]; rfl
noncomputable abbrev O (i : Nat) (a : List Str) : List (Nat × Str) := op 0 i a
theorem O.append {a : List Str} (ha : Bal a) (i : Nat) (b : List Str) : O i (a ++ b) = O i a ++ O (i + a.length) b := by
  show op 0 i (a ++ b) = _; rw [op_append, (ha 0 (by omega)).1]
theorem O.cons {t : Str} (ht : Plain t) (i : Nat) (b : List Str) : O i (t :: b) = (i, t) :: O (i + 1) b := by
  show op 0 i (t :: b) = _; rw [op, dIn_plain ht, if_pos rfl, dOut_plain ht]; rfl
theorem O.wrap {a : List Str} (ha : Bal a) (i : Nat) : O i (tk "(" :: (a ++ [tk ")"])) = [] := by
  have h1 : dOut 0 (tk "(") = 1 := by decide +kernel
  show op 0 i _ = _
  rw [op, h1, op_append, (ha 1 (by omega)).1, (ha 1 (by omega)).2 (by omega)]
  rw [show dIn 0 (tk "(") = 1 by decide +kernel, if_neg (by omega)]
  show [] ++ ([] ++ ((if dIn 1 (tk ")") = 0 then _ else []) ++ [])) = _
  rw [show dIn 1 (tk ")") = 1 by decide +kernel, if_neg (by omega)]; rfl
/-- the tokens alone -/
noncomputable def oT (a : List Str) : List Str := (O 0 a).map (·.2)
theorem oT_shift (a : List Str) : ∀ (d : Int) (i j : Nat), (op d i a).map (·.2) = (op d j a).map (·.2) := by
  induction a with
  | nil => intro d i j; rfl
  | cons t r ih =>
    intro d i j
    rw [op, op, List.map_append, List.map_append, ih _ (i + 1) (j + 1)]
    congr 1
    split <;> rfl
theorem oT_at (a : List Str) (i : Nat) : (O i a).map (·.2) = oT a := oT_shift a 0 i 0
theorem oT_append {a : List Str} (ha : Bal a) (b : List Str) : oT (a ++ b) = oT a ++ oT b := by
  unfold oT; rw [O.append ha, List.map_append, oT_at b]; rfl
theorem oT_cons {t : Str} (ht : Plain t) (b : List Str) : oT (t :: b) = t :: oT b := by
  unfold oT; rw [O.cons ht, List.map_cons, oT_at b]; rfl
theorem oT_wrap {a : List Str} (ha : Bal a) : oT (tk "(" :: (a ++ [tk ")"])) = [] := by unfold oT; rw [O.wrap ha]; rfl
/-- the places where P holds -/
noncomputable def pl (P : Str → Bool) (a : List Str) : List Nat := ((O 0 a).filter (fun x => P x.2)).map (·.1)
theorem pl_nil {P : Str → Bool} {a : List Str} (h : ∀ t ∈ oT a, P t = false) : pl P a = [] := by
  unfold pl
  rw [List.map_eq_nil_iff, List.filter_eq_nil_iff]
  intro x hx
  rw [h x.2 (List.mem_map_of_mem (f := (·.2)) hx)]; exact Bool.false_ne_true
theorem filter_none {P : Str → Bool} {a : List Str} (h : ∀ t ∈ oT a, P t = false) (i : Nat) : (O i a).filter (fun x => P x.2) = [] := by
  rw [List.filter_eq_nil_iff]
  intro x hx
  rw [h x.2 (by rw [← oT_at a i]; exact List.mem_map_of_mem (f := (·.2)) hx)]; exact Bool.false_ne_true
theorem pl_first {P : Str → Bool} {a b : List Str} {t : Str} (ha : Bal a) (ht : Plain t) (hp : P t = true) (h : ∀ t ∈ oT a, P t = false) : ∃ r, pl P (a ++ t :: b) = a.length :: r := by
  unfold pl
  rw [O.append ha, O.cons ht, List.filter_append, filter_none h, List.filter_cons, if_pos (by exact hp)]
  exact ⟨((O (0 + a.length + 1) b).filter (fun x => P x.2)).map (·.1), by simp⟩
theorem outside_pl (P : Str → Bool) (a : List Str) : (outside a).filter (fun i => (a[i]?).elim false P) = pl P a := by
  unfold outside pl
  rw [outGo_op, List.filter_map]
  congr 1
  apply List.filter_congr
  intro x hx
  obtain ⟨h1, h2⟩ := op_mem a 0 0 x.1 x.2 hx
  rw [Nat.sub_zero] at h2
  simp [h2]
/-- the colon that answers -/
noncomputable def cw : Int → List (Nat × Str) → Int
  | _, [] => -1
  | w, (i, t) :: r =>
    if t = tk "?" then cw (w + 1) r
    else if t = tk ":" then (if w - 1 = 0 then (i : Int) else cw (w - 1) r)
    else cw w r
theorem colonGo_cw (part : List Str) : ∀ (ps : List (Nat × Str)) (w : Int), (∀ x ∈ ps, part[x.1]? = some x.2) → colonGo part w (ps.map (·.1)) = cw w ps
  | [], _, _ => rfl
  | (i, t) :: r, w, h => by
    have h0 : part[i]? = some t := h (i, t) (.head _)
    have ih := fun w => colonGo_cw part r w fun x hx => h x (.tail _ hx)
    show (if part[i]? = some (tk "?") then _ else _) = _
    rw [h0, cw]
    simp only [Option.some.injEq, ih]
theorem colonOf_cw (part : List Str) : colonOf part (outside part) = cw 0 (O 0 part) := by
  unfold colonOf outside
  rw [outGo_op]
  refine colonGo_cw part _ 0 fun x hx => ?_
  have := (op_mem part 0 0 x.1 x.2 hx).2
  simpa using this
/-- no ? and no : outside -/
noncomputable def NQ (a : List Str) : Prop := ∀ t ∈ oT a, t ≠ tk "?" ∧ t ≠ tk ":"
/-- ? and : answer each other -/
noncomputable def QB (a : List Str) : Prop := ∀ (w : Int) (i : Nat) (r : List (Nat × Str)), 1 ≤ w → cw w (O i a ++ r) = cw w r
theorem cw_none : ∀ (ps : List (Nat × Str)) (w : Int) (r : List (Nat × Str)), (∀ x ∈ ps, x.2 ≠ tk "?" ∧ x.2 ≠ tk ":") → cw w (ps ++ r) = cw w r
  | [], _, _, _ => rfl
  | (i, t) :: q, w, r, h => by
    have h0 := h (i, t) (.head _)
    rw [List.cons_append, cw, if_neg h0.1, if_neg h0.2]
    exact cw_none q w r fun x hx => h x (.tail _ hx)
theorem NQ.cw {a : List Str} (h : NQ a) (w : Int) (i : Nat) (r : List (Nat × Str)) : cw w (O i a ++ r) = cw w r :=
  cw_none _ w r fun x hx => h x.2 (by rw [← oT_at a i]; exact List.mem_map_of_mem (f := (·.2)) hx)
theorem NQ.qb {a : List Str} (h : NQ a) : QB a := fun w i r _ => h.cw w i r
theorem plain_q : Plain (tk "?") := ⟨by decide +kernel, by decide +kernel⟩
theorem plain_d : Plain (tk ":") := ⟨by decide +kernel, by decide +kernel⟩
theorem QB.cond {a b c : List Str} (ha : NQ a) (hba : Bal a) (hb : QB b) (hbb : Bal b) (hc : QB c) : QB (a ++ tk "?" :: (b ++ tk ":" :: c)) := by
  intro w i r hw
  rw [O.append hba, O.cons plain_q, O.append hbb, O.cons plain_d]
  simp only [List.append_assoc, List.cons_append]
  rw [ha.cw, cw, if_pos rfl, hb _ _ _ (by omega), cw, if_neg (by decide +kernel), if_pos rfl, if_neg (by omega), show w + 1 - 1 = w by omega]
  exact hc w _ r hw
theorem colon_cond {a b c : List Str} (ha : NQ a) (hba : Bal a) (hb : QB b) (hbb : Bal b) : colonOf (a ++ tk "?" :: (b ++ tk ":" :: c)) (outside (a ++ tk "?" :: (b ++ tk ":" :: c))) = ((a.length + 1 + b.length : Nat) : Int) := by
  rw [colonOf_cw, O.append hba, O.cons plain_q, O.append hbb, O.cons plain_d]
  rw [ha.cw, cw, if_pos rfl, hb _ _ _ (by omega), cw, if_neg (by decide +kernel), if_pos rfl, if_pos (by omega)]
  simp
end Mine
namespace Mine
section
variable {c : Cfg} {σ σ' σ₁ σ₂ : Sig} {E : ERes} {EE : Value → Shared → Prop} {Φ : AFlow → Sig → Prop} {rest : List Stmt}
noncomputable def pTest (part : List Str) (P : Str → Bool) : D → Bool
  | .int i => (part[i.toNat]?).elim false P
  | _ => false
theorem filter_places (part : List Str) (P : Str → Bool) : ((nats (outside part)).filter (pTest part P)).map id = nats (pl P part) := by
  rw [List.map_id, ← outside_pl P part]
  unfold nats
  rw [List.filter_map]
  congr 1
theorem places_scalar {part : List Str} {d : D} (h : d ∈ nats (outside part)) : ∃ i : Nat, d = .int (i : Int) ∧ ∃ t, part[i]? = some t := by
  unfold nats at h
  obtain ⟨i, hi, rfl⟩ := List.mem_map.mp h
  have := outside_lt hi
  exact ⟨i, rfl, part[i], by simp [this]⟩
theorem swaps_comp (ok : c.Ev) {elt : Expr} {gens : List Comprehension} {scope : Scope} {pos py : Pos} {y : Str} {n : Nat} (hyk : c.env.kindOf y = some .local) (hl : (py.line == pos.line) = true) (hno : (!(scope.names.any fun (n, k) => n == y && (k == .local || k == .cell))) = true) :
    swapsWith (.ListComp elt gens scope pos) (some (.Name y py)) n c.env = pure true := by
  have hb : c.env.blockKind = .function := by unfold Env.blockKind; rw [ok.hk]; rfl
  show (pure (c.env.blockKind == .function && c.env.kindOf y == some .local && py.line == pos.line && !(scope.names.any fun (n, k) => n == y && (k == .local || k == .cell))) : Sem Bool) = pure true
  rw [hb, hyk, hl, hno]; rfl
theorem SX.places (ok : c.Ok) {iter t : Expr} {px p1 py pos spos : Pos} {y : Str} {scope : Scope} (part : List Str) (P : Str → Bool) (cap : Sig) (hlen : part.length ≤ 1000)
    (hi : IT c σ iter (nats (outside part)))
    (hcell : ∀ y ∈ scope.names, y.2 ≠ .cell) (hkind : scope.kind = .function) (hnames : ∀ y ∈ scope.names, y.2 = .local → scope.names.lookup y.1 = some .local) (hx : scope.names.lookup (tk "at") = some .local)
    (hfree : ∀ n ∈ freesOf scope.names, c.env.kindOf n = some .cell ∧ n ∈ σ.map (·.1))
    (hcap : ∀ q ∈ cap, q ∈ σ ∧ q.2.free = false ∧ scope.names.lookup q.1 = some .free ∧ q.1 ∈ freesOf scope.names) (hnod : (tk "at" :: cap.map (·.1)).Nodup)
    (ht : ∀ c' (i : Nat) x, CompOf c c' scope → part[i]? = some x → EVB c' ((tk "at", .val (.int (i : Int))) :: cap) t (P x))
    (hs : ∀ v, foldedSetIterable iter c.env v = pure v)
    (hline : (py.line == pos.line) = true) (hno : (!(scope.names.any fun (n, k) => n == y && (k == .local || k == .cell))) = true) (hyk : c.env.kindOf y = some .local)
    (hu : Upd σ y (.val (.list (nats (pl P part)))) σ') (cont : SX c E σ' rest Φ) : SX c E σ (.Assign [.Name y py] (.ListComp (.Name (tk "at") p1) [⟨.Name (tk "at") px, iter, [t], 0⟩] scope pos) spos :: rest) Φ := by
  have hol := outside_length part
  refine SX.assignComp (p := pTest part P) (f := id) ok cap hi (by simp [nats]; omega) (fun d hd => by obtain ⟨i, rfl, _⟩ := places_scalar hd; exact .int _) (fun d hd => by obtain ⟨i, rfl, _⟩ := places_scalar hd; exact .int _) hcell hkind hnames hx (by decide) hfree hcap hnod
    (.inr ⟨t, rfl, fun c' d co hd => by
      obtain ⟨i, rfl, x, hx'⟩ := places_scalar hd
      have := ht c' i x co hx'
      show EVB c' _ t ((part[((i : Int)).toNat]?).elim false P)
      rw [Int.toNat_natCast, hx']; exact this⟩)
    (fun c' d co hd _ => EV.name co.ev .head) hs (swaps_comp ok.toEv hyk hline hno) hyk (by rw [filter_places]; exact hu) cont
end
theorem cut_map {α β : Type} (f : α → β) (i j : Option Int) (l : List α) : cut i j (l.map f) = (cut i j l).map f := by
  unfold cut; rw [List.map_take, List.map_drop, List.length_map]
theorem clip_nat {n a : Nat} (h : a ≤ n) : clipAt n (a : Int) = a := by unfold clipAt; rw [if_neg (by omega)]; omega
theorem cut_take {α : Type} {l : List α} {n : Nat} (h : n ≤ l.length) : cut none (some (n : Int)) l = l.take n := by
  unfold cut; simp [clip_nat h]
theorem cut_drop {α : Type} {l : List α} {n : Nat} (h : n ≤ l.length) : cut (some (n : Int)) none l = l.drop n := by
  unfold cut; simp only [Option.elim, clip_nat h]; rw [List.take_of_length_le]; simp
theorem cut_mid {α : Type} {l : List α} {a b : Nat} (ha : a ≤ l.length) (hb : b ≤ l.length) : cut (some (a : Int)) (some (b : Int)) l = (l.drop a).take (b - a) := by
  unfold cut; simp only [Option.elim, clip_nat ha, clip_nat hb]
end Mine
namespace Mine
section
variable {c : Cfg} {σ σ' σ₁ σ₂ : Sig} {E : ERes} {EE : Value → Shared → Prop} {Φ : AFlow → Sig → Prop} {rest : List Stmt}
/-- displays of written texts, of written ints -/
noncomputable def textOf : Expr → Option Str
  | .Constant (.str x) _ _ => some x
  | _ => none
noncomputable def intOf : Expr → Option Int
  | .Constant (.int x) _ _ => some x
  | _ => none
noncomputable def allOf {α : Type} (f : Expr → Option α) : List Expr → Option (List α)
  | [] => some []
  | e :: r => (f e).bind fun x => (allOf f r).map (x :: ·)
noncomputable abbrev textsOf (es : List Expr) : Option (List Str) := allOf textOf es
noncomputable abbrev intsOf (es : List Expr) : Option (List Int) := allOf intOf es
theorem allOf_cons {α : Type} {f : Expr → Option α} {e : Expr} {r : List Expr} {ys : List α} (h : allOf f (e :: r) = some ys) : ∃ x xs, ys = x :: xs ∧ f e = some x ∧ allOf f r = some xs := by
  unfold allOf at h
  obtain ⟨x, h1, h2⟩ := Option.bind_eq_some_iff.mp h
  obtain ⟨xs, h3, h4⟩ := Option.map_eq_some_iff.mp h2
  exact ⟨x, xs, h4.symm, h1, h3⟩
theorem EVs.texts {es : List Expr} : ∀ {ys : List Str}, textsOf es = some ys → EVs c σ es (ys.map .str) := by
  induction es with
  | nil => intro ys h; injection h with h; subst h; exact .nil
  | cons e r ih =>
    intro ys h
    obtain ⟨x, xs, rfl, h1, h2⟩ := allOf_cons h
    unfold textOf at h1
    split at h1
    · injection h1 with h1; subst h1; exact .cons EV.const_str (fun _ => rfl) (ih h2)
    · cases h1
theorem EVs.written {es : List Expr} : ∀ {ys : List Int}, intsOf es = some ys → EVs c σ es (ys.map .int) := by
  induction es with
  | nil => intro ys h; injection h with h; subst h; exact .nil
  | cons e r ih =>
    intro ys h
    obtain ⟨x, xs, rfl, h1, h2⟩ := allOf_cons h
    unfold intOf at h1
    split at h1
    · injection h1 with h1; subst h1; exact .cons EV.const_int (fun _ => rfl) (ih h2)
    · cases h1
theorem EVs.cB {l r : Expr} {op : Operator} {p : Pos} {es : List Expr} {ds : List D} {d : D} (h : EV c σ (.BinOp l op r p) d) (t : EVs c σ es ds) : EVs c σ (.BinOp l op r p :: es) (d :: ds) := .cons h (fun _ => rfl) t
/-- the cells of a law: xs[:n] + [written ints] -/
theorem EV.cells (ev : c.Ev) {x : Str} {n : Nat} {kk : Nat} {es : List Expr} {p p2 p3 p4 p5 p6 : Pos} {ns tail : List Int} (hl : Loc σ x (.val (.list (ns.map .int)))) (ht : intsOf es = some tail) (hn : ns.length + tail.length ≤ 10000) :
    EV c σ (.BinOp (.Subscript (.Name x p) (.Slice none (some (.Constant (.int n) kk p2)) none p3) p4) .Add (.List es p5) p6) (.list ((ns.take n ++ tail).map .int)) := by
  refine EV.cast (EV.binop (EV.slice (EV.name ev hl) .none (.some EV.const_int) (by simp; omega) (fun _ _ => rfl)) (EV.list (EVs.written ht) (by simp; omega)) (OP2.add_list ?_)) ?_
  · rw [cut_map]; simp [cut]; omega
  · rw [cut_map, List.map_append]
    congr 3
    by_cases h : n ≤ ns.length
    · exact cut_take h
    · unfold cut
      have : clipAt ns.length (n : Int) = ns.length := by unfold clipAt; rw [if_neg (by omega)]; omega
      simp only [Option.elim, List.drop_zero, Nat.sub_zero]
      rw [this, List.take_of_length_le (Nat.le_refl _), List.take_of_length_le (by omega)]
end
end Mine
namespace Mine
section
variable {c : Cfg} {σ σ' σ₁ σ₂ : Sig} {E : ERes} {EE : Value → Shared → Prop} {Φ : AFlow → Sig → Prop} {rest : List Stmt} {es : List Expr} {ds : List D} {d : D}
theorem EVs.cL {xs : List Expr} {p : Pos} (h : EV c σ (.List xs p) d) (t : EVs c σ es ds) : EVs c σ (.List xs p :: es) (d :: ds) := .cons h (fun _ => rfl) t
theorem EVs.cC {x : Const} {k : Nat} {p : Pos} (h : EV c σ (.Constant x k p) d) (t : EVs c σ es ds) : EVs c σ (.Constant x k p :: es) (d :: ds) := .cons h (fun _ => rfl) t
theorem EVs.cS {x y : Expr} {p : Pos} (h : EV c σ (.Subscript x y p) d) (t : EVs c σ es ds) : EVs c σ (.Subscript x y p :: es) (d :: ds) := .cons h (fun _ => rfl) t
theorem EVs.cF {x : Expr} {as : List Expr} {ks : List Keyword} {p : Pos} (h : EV c σ (.Call x as ks p) d) (t : EVs c σ es ds) : EVs c σ (.Call x as ks p :: es) (d :: ds) := .cons h (fun _ => rfl) t
theorem EVs.cN {x : Str} {p : Pos} (h : EV c σ (.Name x p) d) (t : EVs c σ es ds) : EVs c σ (.Name x p :: es) (d :: ds) := .cons h (fun _ => rfl) t
/-- ints that are written, some with a sign -/
inductive Written : List Expr → List Int → Prop where
  | nil : Written [] []
  | pos {i : Int} {k : Nat} {p : Pos} {es : List Expr} {is : List Int} : Written es is → Written (.Constant (.int i) k p :: es) (i :: is)
  | neg {i : Int} {k : Nat} {p p' : Pos} {es : List Expr} {is : List Int} : Written es is → Written (.UnaryOp .USub (.Constant (.int i) k p) p' :: es) (-i :: is)
theorem Written.evs {es : List Expr} {is : List Int} (h : Written es is) : EVs c σ es (is.map .int) := by
  induction h with
  | nil => exact .nil
  | pos _ ih => exact .cons EV.const_int (fun _ => rfl) ih
  | neg _ ih => exact .cons (EV.neg EV.const_int) (fun _ => rfl) ih
/-- x = [written ints][i] -/
theorem SX.assignMenu (ok : c.Ok) {x : Str} {es : List Expr} {i : Expr} {p p' p1 p2 : Pos} {is : List Int} {j v : Int} (h : Written es is) (hi : EV c σ i (.int j)) (h0 : 0 ≤ j) (hj : is[j.toNat]? = some v) (hlen : is.length ≤ 1000) (hs : ∀ o k, subscripted i false o k = operate [o, k] (getItem o k)) (hu : Upd σ x (.val (.int v)) σ') (k : SX c E σ' rest Φ) :
    SX c E σ (.Assign [.Name x p'] (.Subscript (.List es p1) i p2) p :: rest) Φ := by
  have hlt := (List.getElem?_eq_some_iff.mp hj).1
  refine SX.assign ok (EV.item (EV.list h.evs (by simp; omega)) hi (by simp; omega) (by simp; omega) (by simp; omega) (d := .int v) ?_ hs) hu rfl k
  unfold idx; rw [if_neg (by omega), List.getElem?_map, hj]; rfl
end
end Mine
namespace Mine
noncomputable def tiers : List (List Str) := [[tk "||"], [tk "&&"], [tk "==", tk "!="], [tk "<", tk ">", tk "<=", tk ">="], [tk "+", tk "-"], [tk "*", tk "/", tk "%"]]
noncomputable def isIn (s : List Str) (t : Str) : Bool := s.any (· == t)
noncomputable def eqT (x : Str) (t : Str) : Bool := t == x
theorem plain_op {o : Str} {i : Int} (h : lvl o = some i) : Plain o := by
  have : ∀ p ∈ opsTab, Plain p.1 := by unfold Plain opsTab; decide +kernel
  exact this _ (lvl_mem h)
theorem plain_op' {o : Str} (h : (lvl o).isSome = true) : Plain o := by
  obtain ⟨i, hi⟩ := Option.isSome_iff_exists.mp h; exact plain_op hi
theorem plain_not : Plain (tk "!") := ⟨by decide +kernel, by decide +kernel⟩
theorem atm_plain {t : Str} (h : Atm t) : Plain t := by
  rcases h with h | h
  · subst h; exact ⟨by decide +kernel, by decide +kernel⟩
  · constructor <;> (intro e; subst e; exact absurd h (by decide +kernel))
theorem bal_nots (k : Nat) : Bal (nots k) := by
  induction k with
  | zero => exact .nil
  | succ k ih => exact .cons plain_not ih
theorem flat_bal : ∀ e : Tr, e.WF → Bal e.flat
  | .nm k t, h => (bal_nots k).append (.cons (atm_plain h) .nil)
  | .par k e, h => (bal_nots k).append (flat_bal e h).wrap
  | .bin o l r, h => (flat_bal l h.2.1).append (.cons (plain_op' h.1) (flat_bal r h.2.2.1))
  | .cond c t f, h => (flat_bal c h.1).append (.cons plain_q ((flat_bal t h.2.1).append (.cons plain_d (flat_bal f h.2.2.1))))
theorem oT_nots (k : Nat) : oT (nots k) = nots k := by
  induction k with
  | zero => rfl
  | succ k ih => show oT (tk "!" :: nots k) = _; rw [oT_cons plain_not, ih]; rfl
theorem oT_nm {k : Nat} {t : Str} (h : Atm t) : oT (nots k ++ [t]) = nots k ++ [t] := by rw [oT_append (bal_nots k), oT_nots, oT_cons (atm_plain h)]; rfl
theorem mem_nots {k : Nat} {t : Str} (h : t ∈ nots k) : t = tk "!" := List.eq_of_mem_replicate h
/-- what stands outside: nots, an atom, operations at least as strong, or a condition's signs -/
theorem out_kinds : ∀ e : Tr, e.WF → ∀ t ∈ oT e.flat, t = tk "!" ∨ Atm t ∨ (∃ i, lvl t = some i ∧ e.lv ≤ i) ∨ (e.lv = 0 ∧ (t = tk "?" ∨ t = tk ":"))
  | .nm k t, h, u, hu => by
    rw [show (Tr.nm k t).flat = nots k ++ [t] from rfl, oT_nm h] at hu
    rcases List.mem_append.mp hu with h1 | h1
    · exact .inl (mem_nots h1)
    · rw [List.mem_singleton.mp h1]; exact .inr (.inl h)
  | .par k e, h, u, hu => by
    rw [show (Tr.par k e).flat = nots k ++ tk "(" :: (e.flat ++ [tk ")"]) from rfl, oT_append (bal_nots k), oT_nots, oT_wrap (flat_bal e h), List.append_nil] at hu
    exact .inl (mem_nots hu)
  | .bin o l r, h, u, hu => by
    obtain ⟨h1, h2, h3, h4, h5⟩ := h
    obtain ⟨i, hi⟩ := Option.isSome_iff_exists.mp h1
    have hlo := lvo_eq hi
    have hr := lvl_range hi
    rw [show (Tr.bin o l r).flat = l.flat ++ o :: r.flat from rfl, oT_append (flat_bal l h2), oT_cons (plain_op hi)] at hu
    show _ ∨ _ ∨ (∃ i, lvl u = some i ∧ lvo o ≤ i) ∨ _
    rcases List.mem_append.mp hu with h6 | h6
    · rcases out_kinds l h2 u h6 with h7 | h7 | ⟨j, h7, h8⟩ | ⟨h7, h8⟩
      · exact .inl h7
      · exact .inr (.inl h7)
      · exact .inr (.inr (.inl ⟨j, h7, by omega⟩))
      · omega
    · rcases List.mem_cons.mp h6 with h6 | h6
      · subst h6; exact .inr (.inr (.inl ⟨i, hi, by omega⟩))
      · rcases out_kinds r h3 u h6 with h7 | h7 | ⟨j, h7, h8⟩ | ⟨h7, h8⟩
        · exact .inl h7
        · exact .inr (.inl h7)
        · exact .inr (.inr (.inl ⟨j, h7, by omega⟩))
        · omega
  | .cond c t f, h, u, hu => by
    obtain ⟨h1, h2, h3, h4⟩ := h
    rw [show (Tr.cond c t f).flat = c.flat ++ tk "?" :: (t.flat ++ tk ":" :: f.flat) from rfl, oT_append (flat_bal c h1), oT_cons plain_q, oT_append (flat_bal t h2), oT_cons plain_d] at hu
    show _ ∨ _ ∨ (∃ i, lvl u = some i ∧ (0 : Int) ≤ i) ∨ ((0 : Int) = 0 ∧ _)
    have low : ∀ e : Tr, e.WF → u ∈ oT e.flat → u = tk "!" ∨ Atm u ∨ (∃ i, lvl u = some i ∧ (0 : Int) ≤ i) ∨ ((0 : Int) = 0 ∧ (u = tk "?" ∨ u = tk ":")) → u = tk "!" ∨ Atm u ∨ (∃ i, lvl u = some i ∧ (0 : Int) ≤ i) ∨ ((0 : Int) = 0 ∧ (u = tk "?" ∨ u = tk ":")) := fun _ _ _ h => h
    have up : ∀ e : Tr, (u = tk "!" ∨ Atm u ∨ (∃ i, lvl u = some i ∧ e.lv ≤ i) ∨ (e.lv = 0 ∧ (u = tk "?" ∨ u = tk ":"))) → u = tk "!" ∨ Atm u ∨ (∃ i, lvl u = some i ∧ (0 : Int) ≤ i) ∨ ((0 : Int) = 0 ∧ (u = tk "?" ∨ u = tk ":")) := by
      rintro e (h7 | h7 | ⟨j, h7, h8⟩ | ⟨h7, h8⟩)
      · exact .inl h7
      · exact .inr (.inl h7)
      · exact .inr (.inr (.inl ⟨j, h7, by have := lvl_range h7; omega⟩))
      · exact .inr (.inr (.inr ⟨rfl, h8⟩))
    rcases List.mem_append.mp hu with h6 | h6
    · exact up c (out_kinds c h1 u h6)
    · rcases List.mem_cons.mp h6 with h6 | h6
      · exact .inr (.inr (.inr ⟨rfl, .inl h6⟩))
      · rcases List.mem_append.mp h6 with h6 | h6
        · exact up t (out_kinds t h2 u h6)
        · rcases List.mem_cons.mp h6 with h6 | h6
          · exact .inr (.inr (.inr ⟨rfl, .inr h6⟩))
          · exact up f (out_kinds f h3 u h6)
theorem lvl_not : lvl (tk "!") = none := by decide +kernel
theorem atm_lvl {t : Str} (h : Atm t) : lvl t = none := by
  cases hl : lvl t with
  | none => rfl
  | some i =>
    exfalso
    have : ∀ p ∈ opsTab, ¬ (p.1 = tk "n") ∧ Txt.isdigit p.1 = false := by unfold opsTab; decide +kernel
    have := this _ (lvl_mem hl)
    rcases h with h | h
    · exact this.1 h
    · rw [this.2] at h; cases h
theorem atm_q {t : Str} (h : Atm t) : t ≠ tk "?" ∧ t ≠ tk ":" ∧ t ≠ tk "!" := by
  rcases h with h | h
  · subst h; decide +kernel
  · refine ⟨?_, ?_, ?_⟩ <;> (intro e; subst e; exact absurd h (by decide +kernel))
theorem op_q {t : Str} {i : Int} (h : lvl t = some i) : t ≠ tk "?" ∧ t ≠ tk ":" ∧ t ≠ tk "!" := by
  have : ∀ p ∈ opsTab, p.1 ≠ tk "?" ∧ p.1 ≠ tk ":" ∧ p.1 ≠ tk "!" := by unfold opsTab; decide +kernel
  exact this _ (lvl_mem h)
theorem flat_NQ {e : Tr} (h : e.WF) (hl : 1 ≤ e.lv) : NQ e.flat := fun t ht => by
  rcases out_kinds e h t ht with h7 | h7 | ⟨j, h7, h8⟩ | ⟨h7, h8⟩
  · subst h7; decide +kernel
  · exact ⟨(atm_q h7).1, (atm_q h7).2.1⟩
  · exact ⟨(op_q h7).1, (op_q h7).2.1⟩
  · omega
theorem flat_QB : ∀ e : Tr, e.WF → QB e.flat
  | .nm k t, h => (flat_NQ (e := .nm k t) h (by show (1 : Int) ≤ 100; decide)).qb
  | .par k e, h => (flat_NQ (e := .par k e) h (by show (1 : Int) ≤ 100; decide)).qb
  | .bin o l r, h => (flat_NQ (e := .bin o l r) h (by
      obtain ⟨i, hi⟩ := Option.isSome_iff_exists.mp h.1
      show 1 ≤ lvo o; rw [lvo_eq hi]; exact (lvl_range hi).1)).qb
  | .cond c t f, h => QB.cond (flat_NQ h.1 h.2.2.2) (flat_bal c h.1) (flat_QB t h.2.1) (flat_bal t h.2.1) (flat_QB f h.2.2.1)
end Mine
namespace Mine
theorem tier_lvl (t : Str) {k : Nat} {s : List Str} (h : tiers[k]? = some s) : isIn s t = decide (lvl t = some ((k : Int) + 1)) := by
  have hk : k < 6 := by have := (List.getElem?_eq_some_iff.mp h).1; exact this
  cases hl : lvl t with
  | some i =>
    have all : ∀ p ∈ opsTab, ∀ k : _root_.Fin 6, isIn (tiers[k]?.getD []) p.1 = decide (p.2 = (k.val : Int) + 1) := by unfold opsTab tiers; decide +kernel
    have := all _ (lvl_mem hl) ⟨k, hk⟩
    have h' : tiers[(⟨k, hk⟩ : _root_.Fin 6)]?.getD [] = s := by
      show tiers[k]?.getD [] = s; rw [h]; rfl
    rw [h'] at this
    rw [this]; simp
  | none =>
    simp only [reduceCtorEq, decide_false]
    cases hs : isIn s t with
    | false => rfl
    | true =>
      exfalso
      unfold isIn at hs
      obtain ⟨x, hx, he⟩ := List.any_eq_true.mp hs
      have hxt : x = t := eq_of_beq he
      subst hxt
      have all : ∀ s ∈ tiers, ∀ x ∈ s, (lvl x).isSome = true := by unfold tiers; decide +kernel
      have := all s (List.mem_of_getElem? h) x hx
      rw [hl] at this; cases this
theorem flat_noq {e : Tr} (h : e.WF) (hl : 1 ≤ e.lv) : pl (eqT (tk "?")) e.flat = [] := pl_nil fun t ht => by
  have := (flat_NQ h hl t ht).1
  unfold eqT
  exact beq_eq_false_iff_ne.mpr this
theorem flat_ne (e : Tr) : e.flat ≠ [] := by
  cases e <;> simp [Tr.flat]
theorem bin_lv {o : Str} {l r : Tr} (h : (Tr.bin o l r).WF) : 1 ≤ lvo o ∧ lvo o ≤ 6 := by
  obtain ⟨i, hi⟩ := Option.isSome_iff_exists.mp h.1
  rw [lvo_eq hi]; exact lvl_range hi
theorem get_mid (a : List Str) (o : Str) (b : List Str) : (a ++ o :: b)[a.length]? = some o := by simp
end Mine
namespace Mine
theorem isCmp_iff (i : Int) : isCmp i = true ↔ i = 3 ∨ i = 4 := by
  simp only [isCmp, List.any_cons, List.any_nil, Bool.or_false, Bool.or_eq_true, beq_iff_eq]; omega
end Mine
namespace Mine
theorem eqT_none {x : Str} {a : List Str} (h : ∀ t ∈ oT a, t ≠ x) : ∀ t ∈ oT a, eqT x t = false := fun t ht => beq_eq_false_iff_ne.mpr (h t ht)
end Mine
namespace Mine
end Mine
namespace Mine
end Mine
namespace Mine
noncomputable def fixed : List Str := [tk "n", tk "(", tk ")", tk "!", tk "?", tk ":", tk "", tk "7", tk "||", tk "&&", tk "==", tk "!=", tk "<", tk ">", tk "<=", tk ">=", tk "+", tk "-", tk "*", tk "/", tk "%"]
end Mine
namespace Mine
noncomputable def fOps : List Str := [tk "||", tk "&&", tk "==", tk "!=", tk "<", tk ">", tk "<=", tk ">=", tk "+", tk "-", tk "*", tk "/", tk "%", tk "<", tk "==", tk ">=", tk "&&", tk "||", tk "-"]
/-- what closes: the last opened comes first -/
noncomputable def closers : List Str → List Str
  | [] => []
  | x :: r => if x = tk "(" then tk ")" :: closers r else tk ":" :: tk "n" :: closers r
noncomputable def closeUp (p : List Str × List Str) : List Str := p.1 ++ ((if due p.1 then [tk "n"] else []) ++ closers p.2.reverse)
theorem fOps_ok : ∀ k < 19, ∃ t, fOps[k]? = some t ∧ t ∈ fixed ∧ (lvl t).isSome = true := by
  have all : ∀ k : _root_.Fin 19, (fOps[k.val]?).elim false (fun t => decide (t ∈ fixed) && (lvl t).isSome) = true := by unfold fOps fixed; decide +kernel
  intro k hk
  have := all ⟨k, hk⟩
  dsimp only at this
  cases h : fOps[k]? with
  | none => rw [h] at this; cases this
  | some t => rw [h] at this; simp only [Option.elim, Bool.and_eq_true, decide_eq_true_eq] at this; exact ⟨t, rfl, this⟩
theorem fmod_range (x : Int) {m : Int} (hm : 0 < m) : 0 ≤ x.fmod m ∧ x.fmod m < m := by
  rw [Int.fmod_eq_emod_of_nonneg x (Int.le_of_lt hm)]
  exact ⟨Int.emod_nonneg x (by omega), Int.emod_lt_of_pos x hm⟩
theorem closers_len : ∀ st : List Str, (closers st).length ≤ 2 * st.length
  | [] => Nat.le_refl _
  | x :: r => by
    have := closers_len r
    unfold closers
    split <;> simp only [List.length_cons] <;> omega
theorem closers_gd : ∀ st : List Str, ∀ t ∈ closers st, t ∈ [tk "n", tk ")", tk ":"]
  | [], _, h => by cases h
  | x :: r, t, h => by
    unfold closers at h
    split at h
    · rcases List.mem_cons.mp h with rfl | h
      · decide +kernel
      · exact closers_gd r t h
    · rcases List.mem_cons.mp h with rfl | h
      · decide +kernel
      · rcases List.mem_cons.mp h with rfl | h
        · decide +kernel
        · exact closers_gd r t h
end Mine
namespace Mine
end Mine
namespace Mine
/-- a row of tokens is the row of one formula alone -/
theorem nots_split {a b : Str} {r s : List Str} (ha : a ≠ tk "!") (hb : b ≠ tk "!") : ∀ {k k' : Nat}, nots k ++ a :: r = nots k' ++ b :: s → k = k' ∧ a = b ∧ r = s
  | 0, 0, h => by injection h with h1 h2; exact ⟨rfl, h1, h2⟩
  | 0, k' + 1, h => by
    have h : a :: r = tk "!" :: (nots k' ++ b :: s) := h
    injection h with h1 _; exact absurd h1 ha
  | k + 1, 0, h => by
    have h : tk "!" :: (nots k ++ a :: r) = b :: s := h
    injection h with h1 _; exact absurd h1.symm hb
  | k + 1, k' + 1, h => by
    have h : tk "!" :: (nots k ++ a :: r) = tk "!" :: (nots k' ++ b :: s) := h
    injection h with _ h2
    obtain ⟨e1, e2, e3⟩ := nots_split ha hb h2
    exact ⟨congrArg (· + 1) e1, e2, e3⟩
theorem lpar_not : tk "(" ≠ tk "!" := by decide +kernel
end Mine
namespace Mine
/-- the last of the weakest operations: its level and its place -/
noncomputable def wkF (acc : Int × Int) (p : Nat × Str) : Int × Int := if 0 < lvo p.2 ∧ lvo p.2 ≤ acc.1 then (lvo p.2, (p.1 : Int)) else acc
noncomputable def weakest (part : List Str) : Int × Int := (O 0 part).foldl wkF (7, -1)
theorem wkF_high {m : Int} : ∀ (l : List (Nat × Str)) (acc : Int × Int), m ≤ acc.1 → (∀ p ∈ l, ∀ i, lvl p.2 = some i → m ≤ i) → m ≤ (l.foldl wkF acc).1
  | [], _, h, _ => h
  | p :: r, acc, h, hl => by
    rw [List.foldl_cons]
    refine wkF_high r _ ?_ fun q hq => hl q (.tail _ hq)
    unfold wkF
    split
    · next hc =>
      cases hv : lvl p.2 with
      | none => rw [lvo_none hv] at hc; omega
      | some i => have := hl p (.head _) i hv; rw [lvo_eq hv]; exact this
    · exact h
theorem wkF_skip {acc : Int × Int} : ∀ (l : List (Nat × Str)), (∀ p ∈ l, ∀ i, lvl p.2 = some i → acc.1 < i) → l.foldl wkF acc = acc
  | [], _ => rfl
  | p :: r, hl => by
    rw [List.foldl_cons]
    have : wkF acc p = acc := by
      unfold wkF
      rw [if_neg]
      rintro ⟨h1, h2⟩
      cases hv : lvl p.2 with
      | none => rw [lvo_none hv] at h1; omega
      | some i => have := hl p (.head _) i hv; rw [lvo_eq hv] at h2; omega
    rw [this]; exact wkF_skip r fun q hq => hl q (.tail _ hq)
theorem O_mem {a : List Str} {i : Nat} {p : Nat × Str} (h : p ∈ O i a) : p.2 ∈ oT a := by
  rw [← oT_at a i]; exact List.mem_map_of_mem (f := (·.2)) h
theorem weakest_op {a b : List Str} {o : Str} {i : Int} (ho : lvl o = some i) (ha : Bal a) (h1 : ∀ t ∈ oT a, ∀ j, lvl t = some j → i ≤ j) (h2 : ∀ t ∈ oT b, ∀ j, lvl t = some j → i < j) : weakest (a ++ o :: b) = (i, (a.length : Int)) := by
  have hr := lvl_range ho
  unfold weakest
  rw [O.append ha, O.cons (plain_op ho), List.foldl_append, List.foldl_cons]
  have hh := wkF_high (m := i) (O 0 a) (7, -1) (by show i ≤ 7; omega) fun p hp => h1 _ (O_mem hp)
  have : wkF ((O 0 a).foldl wkF (7, -1)) (0 + a.length, o) = (i, (a.length : Int)) := by
    unfold wkF
    rw [if_pos ⟨by rw [lvo_eq ho]; omega, by rw [lvo_eq ho]; exact hh⟩, lvo_eq ho]; simp
  rw [this]
  exact wkF_skip _ fun p hp => h2 _ (O_mem hp)
theorem weakest_none {a : List Str} (h : ∀ t ∈ oT a, lvl t = none) : weakest a = (7, -1) := wkF_skip _ fun p hp i hi => by rw [h _ (O_mem hp)] at hi; cases hi
theorem kinds_lvl {e : Tr} (h : e.WF) {t : Str} (ht : t ∈ oT e.flat) {i : Int} (hi : lvl t = some i) : e.lv ≤ i := by
  rcases out_kinds e h t ht with rfl | h | ⟨j, hj, hle⟩ | ⟨_, rfl | rfl⟩
  · rw [lvl_not] at hi; cases hi
  · rw [atm_lvl h] at hi; cases hi
  · rw [hj] at hi; cases hi; exact hle
  · rw [lvl_q] at hi; cases hi
  · rw [lvl_d] at hi; cases hi
theorem weakest_bin {o : Str} {l r : Tr} (h : (Tr.bin o l r).WF) : weakest (l.flat ++ o :: r.flat) = (lvo o, (l.flat.length : Int)) := by
  obtain ⟨i, hi⟩ := Option.isSome_iff_exists.mp h.1
  have h4 := h.2.2.2.1
  have h5 := h.2.2.2.2
  rw [lvo_eq hi] at h4 h5 ⊢
  exact weakest_op hi (flat_bal l h.2.1) (fun t ht j hj => by have := kinds_lvl h.2.1 ht hj; omega) (fun t ht j hj => by have := kinds_lvl h.2.2.1 ht hj; omega)
theorem weakest_opd {e : Tr} (h : e.WF) (hl : 100 ≤ e.lv) : weakest e.flat = (7, -1) := weakest_none fun t ht => by
  cases hv : lvl t with
  | none => rfl
  | some i => have := kinds_lvl h ht hv; have := lvl_range hv; omega
/-- the level that _law_weakest gives of a formula that is no ? : -/
theorem weakest_lv : ∀ e : Tr, e.WF → 1 ≤ e.lv → (weakest e.flat).1 = if e.lv ≤ 6 then e.lv else 7
  | .nm k t, h, _ => by rw [weakest_opd h (Int.le_refl _)]; rfl
  | .par k m, h, _ => by rw [weakest_opd (e := .par k m) h (Int.le_refl _)]; rfl
  | .bin o l r, h, _ => by
    have := bin_lv h
    show (weakest (l.flat ++ o :: r.flat)).1 = if lvo o ≤ 6 then lvo o else 7
    rw [weakest_bin h, if_pos this.2]
  | .cond c t f, _, h => absurd h (by show ¬ (1 : Int) ≤ 0; omega)
/-- what _law_write gives -/
noncomputable def WR : Nat → List Str → Int → Str → Prop
  | 0, _, _, _ => False
  | n + 1, part, q, x =>
    (∃ a b c xa xb xc, part = a ++ tk "?" :: (b ++ tk ":" :: c) ∧ Bal a ∧ NQ a ∧ Bal b ∧ QB b ∧ WR n b 0 xb ∧ WR n a 1 xa ∧ WR n c (-1) xc ∧
      x = (if q = 0 then paren (xb ++ tk " if " ++ xa ++ tk " else " ++ xc) else xb ++ tk " if " ++ xa ++ tk " else " ++ xc)) ∨
    (pl (eqT (tk "?")) part = [] ∧ ∃ a b o i xa xb, part = a ++ o :: b ∧ lvl o = some i ∧ weakest part = (i, (a.length : Int)) ∧ WR n a 1 xa ∧ WR n b 1 xb ∧
      x = (if i = 4 ∧ q = 4 then paren ((if isCmp i && isCmp (weakest a).1 then paren xa else xa) ++ tk " " ++ pyOp o ++ tk " " ++ (if i = 3 ∧ (weakest b).1 = 4 then paren xb else xb))
        else (if isCmp i && isCmp (weakest a).1 then paren xa else xa) ++ tk " " ++ pyOp o ++ tk " " ++ (if i = 3 ∧ (weakest b).1 = 4 then paren xb else xb))) ∨
    (pl (eqT (tk "?")) part = [] ∧ weakest part = (7, -1) ∧ ∃ k, (∃ t, part = nots k ++ [t] ∧ Atm t ∧ x = notTxt k ++ num t) ∨ (∃ m xm, part = nots k ++ tk "(" :: (m ++ [tk ")"]) ∧ WR n m (-1) xm ∧ x = notTxt k ++ (tk "(" ++ xm ++ tk ")")))
theorem str_app (a b c : Str) : a ++ b ++ c = a ++ (b ++ c) := by
  cases a; cases b; cases c
  show Str.mk _ = Str.mk _
  congr 1
  exact Array.append_assoc
theorem wr_flat : ∀ (e : Tr) (n : Nat) (q : Int), e.WF → e.flat.length ≤ n → WR (n + 1) e.flat q (e.txt q)
  | .nm k t, n, q, h, hl => by
    refine .inr (.inr ⟨flat_noq h (by show (1 : Int) ≤ 100; omega), weakest_opd h (Int.le_refl _), k, .inl ⟨t, rfl, h, ?_⟩⟩)
    show wrap q (.nm k t) (notTxt k ++ num t) = _
    exact if_neg (by show ¬ (q = (100 : Int) ∧ _); omega)
  | .par k m, n, q, h, hl => by
    have hlen : m.flat.length + 2 ≤ n := by
      have : (Tr.par k m).flat.length = k + (m.flat.length + 2) := by simp [Tr.flat, nots]
      omega
    obtain ⟨n', rfl⟩ : ∃ n', n = n' + 1 := ⟨n - 1, by omega⟩
    have ih := wr_flat m n' (-1) h (by omega)
    have e1 : m.txt (-1) = m.tx := if_neg (by omega)
    rw [e1] at ih
    refine .inr (.inr ⟨flat_noq (e := .par k m) h (by show (1 : Int) ≤ 100; omega), weakest_opd (e := .par k m) h (Int.le_refl _), k, .inr ⟨m.flat, m.tx, rfl, ih, ?_⟩⟩)
    show wrap q (.par k m) (notTxt k ++ tk "(" ++ m.tx ++ tk ")") = _
    rw [show wrap q (.par k m) (notTxt k ++ tk "(" ++ m.tx ++ tk ")") = notTxt k ++ tk "(" ++ m.tx ++ tk ")" from if_neg (by show ¬ (q = (100 : Int) ∧ _); omega)]
    simp only [str_app]
  | .bin o l r, n, q, h, hl => by
    obtain ⟨i, hi⟩ := Option.isSome_iff_exists.mp h.1
    have hb := bin_lv h
    have h4 := h.2.2.2.1
    have h5 := h.2.2.2.2
    have hlen : (Tr.bin o l r).flat.length = l.flat.length + r.flat.length + 1 := by simp [Tr.flat]; omega
    have hll := List.length_pos_iff.mpr (flat_ne l)
    have hrl := List.length_pos_iff.mpr (flat_ne r)
    obtain ⟨n', rfl⟩ : ∃ n', n = n' + 1 := ⟨n - 1, by omega⟩
    have il := wr_flat l n' 1 h.2.1 (by omega)
    have ir := wr_flat r n' 1 h.2.2.1 (by omega)
    rw [show l.txt 1 = l.tx from if_neg (by omega)] at il
    rw [show r.txt 1 = r.tx from if_neg (by omega)] at ir
    have wl := weakest_lv l h.2.1 (by omega)
    have wr := weakest_lv r h.2.2.1 (by omega)
    have ho := lvo_eq hi
    have cl : isCmp (weakest l.flat).1 = isCmp l.lv := by
      rw [wl]; split
      · rfl
      · next hh =>
        have e1 : ∀ x : Int, 6 < x → isCmp x = false := fun x hx => by
          cases hq : isCmp x with
          | false => rfl
          | true => have := (isCmp_iff x).mp hq; omega
        rw [e1 7 (by decide), e1 l.lv (by omega)]
    have cr : (i = 3 ∧ (weakest r.flat).1 = 4) ↔ (lvo o + 1 = r.lv ∧ (lvo o + 1 = 4 ∨ lvo o + 1 = 0)) := by
      rw [wr, ho]; split <;> omega
    refine .inr (.inl ⟨flat_noq h hb.1, l.flat, r.flat, o, i, l.tx, r.tx, rfl, hi, by rw [← ho]; exact weakest_bin h, il, ir, ?_⟩)
    have e2 : (if i = 3 ∧ (weakest r.flat).1 = 4 then paren r.tx else r.tx) = wrap (lvo o + 1) r r.tx := by
      unfold wrap
      by_cases hc : i = 3 ∧ (weakest r.flat).1 = 4
      · rw [if_pos hc, if_pos (cr.mp hc)]
      · rw [if_neg hc, if_neg fun k => hc (cr.mpr k)]
    rw [e2, cl, ← ho]
    show wrap q (.bin o l r) (Tr.bin o l r).tx = _
    unfold wrap
    show (if q = lvo o ∧ (q = 4 ∨ q = 0) then paren (Tr.bin o l r).tx else (Tr.bin o l r).tx) = _
    by_cases hc : lvo o = 4 ∧ q = 4
    · rw [if_pos (by omega), if_pos hc]; rfl
    · rw [if_neg (by omega), if_neg hc]; rfl
  | .cond c t f, n, q, h, hl => by
    have hlen : (Tr.cond c t f).flat.length = c.flat.length + t.flat.length + f.flat.length + 2 := by simp [Tr.flat]; omega
    obtain ⟨n', rfl⟩ : ∃ n', n = n' + 1 := ⟨n - 1, by omega⟩
    have ic := wr_flat c n' 1 h.1 (by omega)
    have it := wr_flat t n' 0 h.2.1 (by omega)
    have if' := wr_flat f n' (-1) h.2.2.1 (by omega)
    rw [show c.txt 1 = c.tx from if_neg (by omega)] at ic
    rw [show f.txt (-1) = f.tx from if_neg (by omega)] at if'
    refine .inl ⟨c.flat, t.flat, f.flat, c.tx, t.txt 0, f.tx, rfl, flat_bal c h.1, flat_NQ h.1 h.2.2.2, flat_bal t h.2.1, flat_QB t h.2.1, it, ic, if', ?_⟩
    show wrap q (.cond c t f) (Tr.cond c t f).tx = _
    unfold wrap
    show (if q = 0 ∧ (q = 4 ∨ q = 0) then paren (Tr.cond c t f).tx else (Tr.cond c t f).tx) = _
    by_cases hc : q = 0
    · rw [if_pos ⟨hc, .inr hc⟩, if_pos hc]; rfl
    · rw [if_neg fun k => hc k.1, if_neg hc]; rfl
end Mine
namespace Mine
local macro_rules | `(tactic| walk_at "loc") => `(tactic| first | with_reducible exact Loc.head | (with_reducible apply Loc.tail; walk_at "loc"))
local macro_rules | `(tactic| walk_at "locd") => `(tactic| first | exact Loc.head | (with_reducible apply Loc.tail; walk_at "locd"))
local macro_rules | `(tactic| walk_at "upd") => `(tactic| first | with_reducible exact Upd.head | (with_reducible apply Upd.tail; walk_at "upd"))
noncomputable def tierDs : List D := tiers.map fun s => .list (s.map .str)
noncomputable abbrev sigV (t : Str) (k : AV) : Sig := [(tk "token", .val (.str t)), (tk "tiers", .val (.list tierDs)), (tk "k", k)]
theorem level_fn {w : World} {h₁ : Heap} {mg mb : Str → Option Value} (KX : (hd.heap_39 w.params).In h₁) (st : Stat h₁ mg mb) (t : Str) : FN prg w h₁ 92 1 [.str t] (.int (lvo t)) := by
  refine FN.of_body (params := [tk "token"]) (names := [tk "tiers", tk "k"]) st (KX 92 _ rfl) rfl (codeRec_of KX rfl) rfl rfl rfl rfl rfl (bind_one fun _ => rfl) (by decide) (by decide) (by decide) rfl rfl rfl ?_
  intro c ok is hs hdp hun
  have ev := ok.toEv
  have g_range : GL c "range" none := GL.of is hs rfl rfl ((glob_at KX st.g rfl rfl _).trans rfl)
  show SX c _ [(tk "token", .val (.str t)), (tk "tiers", .un), (tk "k", .un)] _ _
  with_reducible refine SX.assign (d := .list tierDs) (σ' := sigV t .un) ok ?_ ?_ ?_ ?_
  · refine EV.list ?_ ?_
    · refine EVs.cL ?_ (EVs.cL ?_ (EVs.cL ?_ (EVs.cL ?_ (EVs.cL ?_ (EVs.cL ?_ .nil)))))
      all_goals (refine EV.list ?_ ?_; exact EVs.texts rfl; decide +kernel)
    · decide +kernel
  · walk_at "upd"
  · rfl
  refine SX.forIn ok (ds := upto 6) (fun i σ => ∃ vk, σ = sigV t vk ∧ ∀ j < i, lvl t ≠ some ((j : Int) + 1)) (IT.range (n := 6) ev g_range (.one EV.const_int (fun _ => rfl)) (by decide)) ⟨_, rfl, fun j hj => by omega⟩ ?_ ?_ (fun _ => rfl)
  · rintro i dd σ₁ hd ⟨vk, rfl, hinv⟩
    obtain ⟨rfl, hi⟩ := upto_get hd
    refine ⟨_, by walk_at "upd", ?_⟩
    have htl : tiers.length = 6 := rfl
    have hts : tiers[i]? = some tiers[i] := List.getElem?_eq_getElem (by omega)
    have htr := tier_lvl t hts
    have hdl : tierDs.length = 6 := rfl
    have hit : ∀ p q z, EV c (sigV t (.val (.int (i : Int)))) (.Subscript (.Name (tk "tiers") p) (.Name (tk "k") q) z) (.list (tiers[i].map .str)) := fun p q z =>
      EV.item (EV.name ev (d := .list tierDs) (by walk_at "loc")) (EV.name ev (by walk_at "loc")) (by omega) (by omega) (by omega) (by rw [idx_nat]; unfold tierDs; rw [List.getElem?_map, hts]; rfl) (fun _ _ => rfl)
    refine SX.ite (b := isIn tiers[i] t) (EVB.compare (EV.name ev (by walk_at "loc")) (hit _ _ _) OP2.in_strs rfl) (fun hb => ?_) (fun hb => ?_)
    · rw [htr] at hb
      have hl := of_decide_eq_true hb
      refine SX.ret (EV.binop (EV.name ev (by walk_at "loc")) EV.const_int OP2.add_int) ?_
      show AFlow.ret (D.int ((i : Int) + 1)) = AFlow.ret (D.int (lvo t))
      rw [lvo_eq hl]
    · rw [htr] at hb
      have hl := of_decide_eq_false hb
      refine SX.nil (SX.nil ⟨_, rfl, fun j hj => ?_⟩)
      by_cases hji : j < i
      · exact hinv j hji
      · have : j = i := by omega
        subst this; exact hl
  · rintro σ₁ ⟨vk, rfl, hinv⟩
    refine SX.ret EV.const_int ?_
    show AFlow.ret (D.int 0) = AFlow.ret (D.int (lvo t))
    cases hl : lvl t with
    | none => rw [lvo_none hl]
    | some i =>
      exfalso
      have hr := lvl_range hl
      have := hinv (i.toNat - 1) (by rw [upto_length]; omega)
      rw [hl] at this
      exact this (by congr 1; omega)
theorem refusal_fn {w : World} {h₁ : Heap} {mg mb : Str → Option Value} (KX : (hd.heap_39 w.params).In h₁) (st : Stat h₁ mg mb) (t : Str) (hl : t.length ≤ 1000) : FN prg w h₁ 113 1 [.str t] (.str (errMsg t)) := by
  refine FN.of_body (params := [tk "token"]) (names := []) st (KX 113 _ rfl) rfl (codeRec_of KX rfl) rfl rfl rfl rfl rfl (bind_one fun _ => rfl) (by decide) (by decide) (by decide) rfl rfl rfl ?_
  intro c ok is hs hdp hun
  have ev := ok.toEv
  show SX c _ [(tk "token", .val (.str t))] _ _
  refine SX.ite (b := t == tk "") (EVB.compare (EV.name ev (by walk_at "loc")) EV.const_str OP2.eq_str rfl) (fun hb => ?_) (fun hb => ?_)
  · refine SX.ret EV.const_str ?_
    have : t = tk "" := eq_of_beq hb
    subst this
    show AFlow.ret (D.str _) = AFlow.ret (D.str (errMsg (tk "")))
    congr 2
  · have hL : (Str.ofString "unexpected token in plural form: ").length = 33 := by decide +kernel
    refine SX.nil (SX.ret (EV.binop EV.const_str (EV.name ev (by walk_at "loc")) (OP2.add_str (by omega))) ?_)
    show AFlow.ret (D.str _) = AFlow.ret (D.str (errMsg t))
    congr 2
    unfold errMsg
    rw [if_neg]
    intro h0
    refine ne_of_beq hb ?_
    have : t.cps = #[] := Array.eq_empty_of_size_eq_zero h0
    cases t
    simp only at this
    subst this
    decide +kernel
/-- the place at which the walk ends, and its words -/
noncomputable def walkRes (row : List Str) (p : Int) : Nat × Str := match wk p [] true row with
  | .ok _ r => (row.length - 1 - r.length, tk "")
  | .bad m r => (row.length - 1 - r.length, m)
  | .out => (row.length, tk "no end")
noncomputable abbrev sigW (row : List Str) (p : Int) (st : List Str) (due at_ token last : AV) : Sig :=
  [(tk "row", .val (.list (row.map .str))), (tk "priority", .val (.int p)), (tk "opened", .own (st.reverse.map .str)), (tk "due", due), (tk "at", at_), (tk "token", token), (tk "last", last)]
theorem rev_snoc (b : Str) (r : List Str) : (b :: r).reverse.map D.str = r.reverse.map D.str ++ [D.str b] := by simp
set_option maxHeartbeats 1000000 in
theorem walk_fn {w : World} {h₁ : Heap} {mg mb : Str → Option Value} (KX : (hd.heap_39 w.params).In h₁) (st : Stat h₁ mg mb) (row : List Str) (p : Int) (hn : row.length ≤ 1000) (ht : ∀ t ∈ row, t.length ≤ 1000) : FN prg w h₁ 120 2 [dstrs row, .int p] (.tup [.int ((walkRes row p).1 : Int), .str (walkRes row p).2]) := by
  refine FN.of_body (params := [tk "row", tk "priority"]) (names := [tk "opened", tk "due", tk "at", tk "token", tk "last"]) st (KX 120 _ rfl) rfl (codeRec_of KX rfl) rfl rfl rfl rfl rfl (bind_two fun _ _ => rfl) (by decide) (by decide) (by decide) rfl rfl rfl ?_
  intro c ok is hs hdp hun
  have ev := ok.toEv
  have g_len : GL c "len" none := GL.of is hs rfl rfl ((glob_at KX st.g rfl rfl _).trans rfl)
  have g_range : GL c "range" none := GL.of is hs rfl rfl ((glob_at KX st.g rfl rfl _).trans rfl)
  have g_level : GL c "_law_level" (some (.ref 92)) := GL.of is hs rfl rfl ((glob_at KX st.g rfl rfl _).trans rfl)
  have g_ref : GL c "_law_refusal" (some (.ref 113)) := GL.of is hs rfl rfl ((glob_at KX st.g rfl rfl _).trans rfl)
  have is_level : IsFn h₁ 92 := ⟨_, _, KX 92 _ rfl, rfl⟩
  show SX c _ [(tk "row", .val (.list (row.map .str))), (tk "priority", .val (.int p)), (tk "opened", .un), (tk "due", .un), (tk "at", .un), (tk "token", .un), (tk "last", .un)] _ _
  refine SX.newlist ok .nil (by simp) (by walk_at "upd") ?_
  refine SX.assign ok EV.const_bool (by walk_at "upd") rfl ?_
  refine SX.forIn ok (ds := upto row.length) (fun i σ => ∃ (s : List Str) (due : Bool) (va vt vl : AV), σ = sigW row p s (.val (.bool due)) va vt vl ∧ (s.length ≤ i ∧ ∀ x ∈ s, x = tk "(" ∨ x = tk "?") ∧ wk p s due (row.drop i) = wk p [] true row)
    (IT.range (n := row.length) ev g_range (.one (EV.cast (EV.len ev g_len (EVs.cN (EV.name ev (by walk_at "loc")) .nil) (by simp; omega)) (by simp)) (fun _ => rfl)) (by omega)) ⟨[], true, _, _, _, rfl, ⟨by simp, fun x hx => by cases hx⟩, rfl⟩ ?_ ?_ (fun _ => rfl)
  · rintro i dd σ₁ hd ⟨s, due, va, vt, vl, rfl, ⟨hsl, hsm⟩, hinv⟩
    obtain ⟨rfl, hi⟩ := upto_get hd
    have hti : row[i]? = some row[i] := by simp [hi]
    have hdrop : row.drop i = row[i] :: row.drop (i + 1) := List.drop_eq_getElem_cons hi
    have htl : row[i].length ≤ 1000 := ht _ (List.getElem_mem hi)
    generalize row[i] = t at hti hdrop htl
    rw [hdrop] at hinv
    have hrl : (row.drop (i + 1)).length = row.length - (i + 1) := List.length_drop
    refine ⟨sigW row p s (.val (.bool due)) (.val (.int (i : Int))) vt vl, by walk_at "upd", ?_⟩
    refine SX.assign (d := .str t) ok (EV.item (EV.name ev (by walk_at "loc")) (EV.name ev (by walk_at "loc")) (by omega) (by simp; omega) (by simp; omega) (by rw [idx_nat]; simp [hti]) (fun _ _ => rfl)) (by walk_at "upd") rfl ?_
    refine SX.assign ok EV.const_str (by walk_at "upd") rfl ?_
    refine SX.join (fun σ => σ = sigW row p s (.val (.bool due)) (.val (.int (i : Int))) (.val (.str t)) (.val (.str (s.headD (tk ""))))) (b := !(s.reverse.map D.str).isEmpty) (EVB.frozen (x := tk "opened") (σ' := [(tk "row", .val (.list (row.map .str))), (tk "priority", .val (.int p)), (tk "opened", .val (.list (s.reverse.map .str))), (tk "due", .val (.bool due)), (tk "at", .val (.int (i : Int))), (tk "token", .val (.str t)), (tk "last", .val (.str (tk "")))]) (by walk_at "loc") (by walk_at "upd") (EVB.compare (EV.name ev (by walk_at "loc")) (EV.list .nil (by simp)) (OP2.ne_nil ev) rfl)) (fun hb => ?_) (fun hb => ?_) ?_
    · cases s with
      | nil => simp at hb
      | cons x s =>
        refine SX.assign (d := .str x) ok (EV.frozen (x := tk "opened") (σ' := [(tk "row", .val (.list (row.map .str))), (tk "priority", .val (.int p)), (tk "opened", .val (.list ((x :: s).reverse.map .str))), (tk "due", .val (.bool due)), (tk "at", .val (.int (i : Int))), (tk "token", .val (.str t)), (tk "last", .val (.str (tk "")))]) (by walk_at "loc") (by walk_at "upd") (.str x) (EV.item (EV.name ev (by walk_at "loc")) (EV.neg EV.const_int) (by simp; omega) (by simp; omega) (by simp at hsl ⊢; omega) (idx_last (by simp)) (fun _ _ => rfl))) (by walk_at "upd") rfl ?_
        exact SX.nil rfl
    · cases s with
      | nil => exact SX.nil rfl
      | cons x s => simp at hb
    rintro σ₂ rfl
    generalize hlast : s.headD (tk "") = last
    have hret : ∀ (m : Str), (walkRes row p = (i, m)) → AFlow.ret (D.tup [.int (i : Int), .str m]) = AFlow.ret (D.tup [.int ((walkRes row p).1 : Int), .str (walkRes row p).2]) := fun m h => by rw [h]
    have hat : row.length - 1 - (row.drop (i + 1)).length = i := by omega
    have hlvl : ∀ (σ₀ : Sig) p0 p1 p2, Loc σ₀ (tk "token") (.val (.str t)) → EV c σ₀ (.Call (.Name "_law_level" p0) [.Name "token" p1] [] p2) (.int (lvo t)) := fun σ₀ p0 p1 p2 h =>
      EV.call ev is g_level is_level (EVs.cN (EV.name ev h) .nil) (level_fn KX st t) (by omega) (by omega)
    have hpush : ∀ y, (y = tk "(" ∨ y = tk "?") → ∀ x ∈ y :: s, x = tk "(" ∨ x = tk "?" := fun y hy x hx => by
      rcases List.mem_cons.mp hx with rfl | h
      · exact hy
      · exact hsm x h
    refine SX.ite (b := due) (EVB.of_bool (EV.name ev (by walk_at "loc")) rfl) (fun hb => ?_) (fun hb => ?_)
    · subst hb
      rw [wk] at hinv
      refine SX.ite (b := t == tk "(") (EVB.compare (EV.name ev (by walk_at "loc")) EV.const_str OP2.eq_str rfl) (fun hb1 => ?_) (fun hb1 => ?_)
      · rw [if_pos (eq_of_beq hb1)] at hinv
        refine SX.append ok (by walk_at "loc") (EV.name ev (by walk_at "loc")) (by walk_at "upd") (by simp; omega) rfl rfl rfl ?_
        exact SX.nil (SX.nil (SX.nil ⟨tk "(" :: s, true, _, _, _, by unfold sigW; rw [rev_snoc, eq_of_beq hb1], ⟨by simp; omega, hpush _ (.inl rfl)⟩, hinv⟩))
      · rw [if_neg (ne_of_beq hb1)] at hinv
        refine SX.ite (b := t == tk "n" || Txt.isdigit t) (EVB.or (EVB.compare (EV.name ev (by walk_at "loc")) EV.const_str OP2.eq_str rfl) fun _ => EVB.or1 (EVB.of_bool (EV.isdigit (EV.name ev (by walk_at "loc")) rfl rfl) rfl)) (fun hb2 => ?_) (fun hb2 => ?_)
        · rw [if_pos (by simpa using hb2)] at hinv
          refine SX.assign ok EV.const_bool (by walk_at "upd") rfl ?_
          exact SX.nil (SX.nil (SX.nil (SX.nil ⟨s, false, _, _, _, rfl, ⟨by omega, hsm⟩, hinv⟩)))
        · rw [if_neg (fun h => by rcases h with h | h <;> simp [h] at hb2)] at hinv
          refine SX.ite (b := t != tk "!") (EVB.compare (EV.name ev (by walk_at "loc")) EV.const_str OP2.ne_str rfl) (fun hb3 => ?_) (fun hb3 => ?_)
          · rw [if_neg (by simpa using hb3)] at hinv
            refine SX.ret (EV.tuple (EVs.cN (EV.name ev (by walk_at "loc")) (EVs.cF (EV.call ev is g_ref ⟨_, _, KX 113 _ rfl, rfl⟩ (EVs.cN (EV.name ev (by walk_at "loc")) .nil) (refusal_fn KX st t htl) (by omega) (by omega)) .nil)) (by simp)) (hret _ ?_)
            unfold walkRes; rw [← hinv]; simp only; rw [hat]
          · have h3 : t = tk "!" := by simpa using hb3
            rw [if_pos h3] at hinv
            exact SX.nil (SX.nil (SX.nil (SX.nil (SX.nil ⟨s, true, _, _, _, rfl, ⟨by omega, hsm⟩, hinv⟩))))
    · subst hb
      rw [wk.eq_def] at hinv
      dsimp only at hinv
      have hlne : (last != tk "") = !s.isEmpty := by
        subst hlast
        cases s with
        | nil => decide +kernel
        | cons x s =>
          rcases hsm x (.head _) with rfl | rfl
          · show (tk "(" != tk "") = true; decide +kernel
          · show (tk "?" != tk "") = true; decide +kernel
      refine SX.ite (b := decide (0 < lvo t) && ((last != tk "") || decide (p ≤ lvo t))) (EVB.and (EVB.compare (hlvl _ _ _ _ (by walk_at "loc")) EV.const_int OP2.gt_int rfl) fun _ => EVB.and1 (EVB.or (EVB.compare (EV.name ev (by walk_at "loc")) EV.const_str OP2.ne_str rfl) fun _ => EVB.or1 (EVB.compare (hlvl _ _ _ _ (by walk_at "loc")) (EV.name ev (by walk_at "loc")) OP2.ge_int rfl))) (fun hb1 => ?_) (fun hb1 => ?_)
      · rw [if_pos (by rw [hlne] at hb1; cases s <;> simpa using hb1)] at hinv
        refine SX.assign ok EV.const_bool (by walk_at "upd") rfl ?_
        exact SX.nil (SX.nil (SX.nil ⟨s, true, _, _, _, rfl, ⟨by omega, hsm⟩, hinv⟩))
      · rw [if_neg (fun k => by rw [hlne] at hb1; cases s <;> simp_all <;> omega)] at hinv
        refine SX.ite (b := (t == tk "?") && ((last != tk "") || decide (p ≤ 0))) (EVB.and (EVB.compare (EV.name ev (by walk_at "loc")) EV.const_str OP2.eq_str rfl) fun _ => EVB.and1 (EVB.or (EVB.compare (EV.name ev (by walk_at "loc")) EV.const_str OP2.ne_str rfl) fun _ => EVB.or1 (EVB.compare (EV.name ev (by walk_at "loc")) EV.const_int OP2.le_int rfl))) (fun hb2 => ?_) (fun hb2 => ?_)
        · rw [hlne, Bool.and_eq_true] at hb2
          have ht2 := eq_of_beq hb2.1
          rw [if_pos (by refine ⟨ht2, ?_⟩; have := hb2.2; cases s <;> simpa using this)] at hinv
          refine SX.append ok (by walk_at "loc") (EV.name ev (by walk_at "loc")) (by walk_at "upd") (by simp; omega) rfl rfl rfl ?_
          refine SX.assign ok EV.const_bool (by walk_at "upd") rfl ?_
          exact SX.nil (SX.nil (SX.nil (SX.nil ⟨tk "?" :: s, true, _, _, _, by unfold sigW; rw [rev_snoc, ht2], ⟨by simp; omega, hpush _ (.inr rfl)⟩, hinv⟩)))
        · rw [if_neg (fun k => by rw [hlne, k.1] at hb2; cases s <;> simp_all <;> omega)] at hinv
          cases s with
          | nil =>
            have hl0 : last = tk "" := by rw [← hlast]; rfl
            subst hl0
            dsimp only at hinv
            refine SX.ite_false (EVB.cast (EVB.and (b := t == tk ")") (b' := false) (EVB.compare (EV.name ev (by walk_at "loc")) EV.const_str OP2.eq_str rfl) fun _ => EVB.and1 (EVB.cast (EVB.compare (EV.name ev (by walk_at "loc")) EV.const_str OP2.eq_str rfl) (by decide +kernel))) (Bool.and_false _)) ?_
            refine SX.ite_false (EVB.cast (EVB.and (b := t == tk ":") (b' := false) (EVB.compare (EV.name ev (by walk_at "loc")) EV.const_str OP2.eq_str rfl) fun _ => EVB.and1 (EVB.cast (EVB.compare (EV.name ev (by walk_at "loc")) EV.const_str OP2.eq_str rfl) (by decide +kernel))) (Bool.and_false _)) ?_
            refine SX.ite_false (EVB.cast (EVB.compare (EV.name ev (by walk_at "loc")) EV.const_str OP2.eq_str rfl) (by decide +kernel)) ?_
            refine SX.ite_false (EVB.cast (EVB.compare (EV.name ev (by walk_at "loc")) EV.const_str OP2.eq_str rfl) (by decide +kernel)) ?_
            refine SX.ret (EV.tuple (EVs.cN (EV.name ev (by walk_at "loc")) (EVs.cC EV.const_str .nil)) (by simp)) (hret _ ?_)
            unfold walkRes; rw [← hinv]; simp only; rw [hat]
          | cons x s =>
            have hl0 : last = x := by rw [← hlast]; rfl
            subst hl0
            dsimp only at hinv
            have hs' : ∀ y ∈ s, y = tk "(" ∨ y = tk "?" := fun y hy => hsm y (.tail _ hy)
            simp only [List.length_cons] at hsl
            have hpop : ∀ p1 p2 p3 v1 v2 v3, (p2.endLine == p3.line) = true → EX c [(tk "row", .val (.list (row.map .str))), (tk "priority", .val (.int p)), (tk "opened", .own ((last :: s).reverse.map .str)), (tk "due", v1), (tk "at", v2), (tk "token", v3), (tk "last", .val (.str last))] (.Call (.Attribute (.Name "opened" p1) "pop" p2) [] [] p3) (.str last) [(tk "row", .val (.list (row.map .str))), (tk "priority", .val (.int p)), (tk "opened", .own (s.reverse.map .str)), (tk "due", v1), (tk "at", v2), (tk "token", v3), (tk "last", .val (.str last))] := fun p1 p2 p3 v1 v2 v3 hh =>
              EX.pop (ds := s.reverse.map .str) ev (by rw [rev_snoc]; exact .tail (.tail .head)) (by rw [rev_snoc]; exact .tail (.tail .head)) (by simp; omega) hh
            rcases hsm last (.head _) with rfl | rfl
            · rw [if_pos rfl] at hinv
              refine SX.ite (b := t == tk ")" && true) (EVB.and (EVB.compare (EV.name ev (by walk_at "loc")) EV.const_str OP2.eq_str rfl) fun _ => EVB.and1 (EVB.cast (EVB.compare (EV.name ev (by walk_at "loc")) EV.const_str OP2.eq_str rfl) (by decide +kernel))) (fun hb3 => ?_) (fun hb3 => ?_)
              · rw [Bool.and_true] at hb3
                rw [if_pos (eq_of_beq hb3)] at hinv
                refine SX.exprX ok (hpop _ _ _ _ _ _ rfl) (.str _) rfl ?_
                exact SX.nil (SX.nil (SX.nil (SX.nil (SX.nil ⟨s, false, _, _, _, rfl, ⟨by omega, hs'⟩, hinv⟩))))
              · rw [Bool.and_true] at hb3
                rw [if_neg (ne_of_beq hb3)] at hinv
                refine SX.ite_false (EVB.cast (EVB.and (b := t == tk ":") (b' := false) (EVB.compare (EV.name ev (by walk_at "loc")) EV.const_str OP2.eq_str rfl) fun _ => EVB.and1 (EVB.cast (EVB.compare (EV.name ev (by walk_at "loc")) EV.const_str OP2.eq_str rfl) (by decide +kernel))) (Bool.and_false _)) ?_
                refine SX.ite_true (EVB.cast (EVB.compare (EV.name ev (by walk_at "loc")) EV.const_str OP2.eq_str rfl) (by decide +kernel)) ?_
                refine SX.ret (EV.tuple (EVs.cN (EV.name ev (by walk_at "loc")) (EVs.cC EV.const_str .nil)) (by simp)) (hret unbal ?_)
                unfold walkRes; rw [← hinv]; simp only; rw [hat]
            · rw [if_neg (by decide +kernel)] at hinv
              refine SX.ite_false (EVB.cast (EVB.and (b := t == tk ")") (b' := false) (EVB.compare (EV.name ev (by walk_at "loc")) EV.const_str OP2.eq_str rfl) fun _ => EVB.and1 (EVB.cast (EVB.compare (EV.name ev (by walk_at "loc")) EV.const_str OP2.eq_str rfl) (by decide +kernel))) (Bool.and_false _)) ?_
              refine SX.ite (b := t == tk ":" && true) (EVB.and (EVB.compare (EV.name ev (by walk_at "loc")) EV.const_str OP2.eq_str rfl) fun _ => EVB.and1 (EVB.cast (EVB.compare (EV.name ev (by walk_at "loc")) EV.const_str OP2.eq_str rfl) (by decide +kernel))) (fun hb3 => ?_) (fun hb3 => ?_)
              · rw [Bool.and_true] at hb3
                rw [if_pos (eq_of_beq hb3)] at hinv
                refine SX.exprX ok (hpop _ _ _ _ _ _ rfl) (.str _) rfl ?_
                refine SX.assign ok EV.const_bool (by walk_at "upd") rfl ?_
                exact SX.nil (SX.nil (SX.nil (SX.nil (SX.nil (SX.nil ⟨s, true, _, _, _, rfl, ⟨by omega, hs'⟩, hinv⟩)))))
              · rw [Bool.and_true] at hb3
                rw [if_neg (ne_of_beq hb3)] at hinv
                refine SX.ite_false (EVB.cast (EVB.compare (EV.name ev (by walk_at "loc")) EV.const_str OP2.eq_str rfl) (by decide +kernel)) ?_
                refine SX.ite_true (EVB.cast (EVB.compare (EV.name ev (by walk_at "loc")) EV.const_str OP2.eq_str rfl) (by decide +kernel)) ?_
                refine SX.ret (EV.tuple (EVs.cN (EV.name ev (by walk_at "loc")) (EVs.cF (EV.call ev is g_ref ⟨_, _, KX 113 _ rfl, rfl⟩ (EVs.cN (EV.name ev (by walk_at "loc")) .nil) (refusal_fn KX st t htl) (by omega) (by omega)) .nil)) (by simp)) (hret _ ?_)
                unfold walkRes; rw [← hinv]; simp only; rw [hat]
  · rintro σ₁ ⟨s, due, va, vt, vl, rfl, _, hinv⟩
    rw [upto_length, List.drop_length] at hinv
    refine SX.ret (EV.tuple (EVs.cF (EV.cast (d' := .int (row.length : Int)) (EV.len ev g_len (EVs.cN (EV.name ev (d := .list (row.map .str)) (by walk_at "loc")) .nil) (by simp; omega)) (by simp)) (EVs.cC EV.const_str .nil)) (by simp)) ?_
    have : walkRes row p = (row.length, tk "no end") := by
      unfold walkRes; rw [← hinv]
      cases due <;> simp [wk]
    rw [this]
end Mine
namespace Mine
/-- where the frames are -/
noncomputable def fra (l : List Env) : List Addr := l.filterMap (·.frame)
theorem fra_cons {env : Env} {l : List Env} {L : Addr} (hf : env.frame = some L) : fra (env :: l) = L :: fra l := by unfold fra; rw [List.filterMap_cons, hf]
/-- the frames are as in H, but for their slots -/
noncomputable def Slots (H : Heap) (a : ItA) (l : List Env) (h : Heap) : Prop := ∀ b o, H.get? b = some o → b ∈ fra l → b ≠ a.1 → (∀ vs, o.data ≠ .fields vs) → ∃ sl, h.get? b = some { o with slots := sl }
theorem Slots.trans {H h h' : Heap} {a : ItA} {l : List Env} (x : Slots H a l h) (y : h.UpToSlots h') : Slots H a l h' := fun b o h1 h2 h3 h4 => by
  obtain ⟨sl, h5⟩ := x b o h1 h2 h3 h4
  exact y b { o with slots := sl } h5 h4
/-- an error with one text flies over the frames `l`, told against a heap H: all of H but the frames and the iterator is as it was, and the iterator gives ds' from now on -/
noncomputable def Fly (H : Heap) (a : ItA) (ds' : List D) (l : List Env) (msg : Str) (v : Value) (h : Heap) : Prop :=
  ∃ (e : Addr) (B : Heap) (t : Addr) (tk : PySem.Tok), v = .ref e ∧ (∀ b p, H.get? b = some p → b ∉ fra l → b ≠ a.1 → B.get? b = some p) ∧
    Heap.FlyingW B l e (.type "ValueError") (.ref t) h ∧ h.TupAt t [.str msg tk] ∧ B.get? t = none ∧ ItAt (fun b => B.get? b) B a ds' ∧ Slots H a l h
theorem Fly.leave {M : Model} {A : Around} {Q : Unit → Shared → Prop} {E : Value → Shared → Prop} {s : Shared} {H : Heap} {a : ItA} {ds' : List D} {env : Env} {l : List Env} {L : Addr} {msg : Str} {v : Value}
    (hfr : A.frames = some (env :: l)) (hf : env.frame = some L) (hn : H.get? L = none) (x : Fly H a ds' (env :: l) msg v s.heap) (hQ : ∀ h', Fly H a ds' l msg v h' → Q () { s with heap := h' }) : wpAny M A (leaving env v) Q E s := by
  obtain ⟨e, B, t, tk, rfl, hB, hfl, ht, htn, hit, hS⟩ := x
  have hm := fra_cons (l := l) hf
  refine wpAny_leaves_onW hfr hf hfl fun h' h1 h2 => hQ h' ⟨e, B, t, tk, rfl, fun b p hb hl ha => hB b p hb (fun q => ?_) ha, h1, ht.of_slots h2, htn, hit, fun b o hb hm' hne hnf => (hS.trans h2) b o hb (by rw [hm]; exact .tail _ hm') hne hnf⟩
  rw [hm] at q
  rcases List.mem_cons.mp q with rfl | q
  · rw [hn] at hb; cases hb
  · exact hl q
/-- an error of this frame's own, with no place noted yet -/
theorem Fly.first {M : Model} {A : Around} {Q : Unit → Shared → Prop} {E : Value → Shared → Prop} {s : Shared} {H B : Heap} {a : ItA} {ds' : List D} {env : Env} {l : List Env} {L e t : Addr} {oe : Obj} {vs : Array Value} {msg : Str} {tk : PySem.Tok}
    (hfr : A.frames = some (env :: l)) (hf : env.frame = some L) (hn : H.get? L = none) (hH : ∀ b p, H.get? b = some p → b ∉ fra (env :: l) → b ≠ a.1 → B.get? b = some p) (hU : Slots H a l s.heap)
    (hkb : B.StaysIn s.heap) (hl : s.heap.FunFrames B (env :: l)) (he : s.heap.get? e = some oe) (hc : oe.cls = .type "ValueError") (hd : oe.data = .fields vs) (h0 : vs[0]? = some (.ref t)) (h1 : vs[1]? = some .none) (hen : B.get? e = none)
    (ht : s.heap.TupAt t [.str msg tk]) (htn : B.get? t = none) (hit : ItAt (fun b => B.get? b) B a ds')
    (hQ : ∀ h', Fly H a ds' l msg (.ref e) h' → Q () { s with heap := h' }) : wpAny M A (leaving env (.ref e)) Q E s := by
  refine wpAny_leaving_firstW hfr hl hf he hkb hen hd h1 h0 fun h' hL => ?_
  obtain ⟨k1, ⟨_, _, k2⟩, k3, k4⟩ := hL
  rw [hc] at k3
  refine hQ h' ⟨e, B, t, tk, rfl, fun b p hb hnl ha => hH b p hb (fun q => ?_) ha, ⟨k1, hen, k2, k3⟩, ht.of_slots k4, htn, hit, hU.trans k4⟩
  rw [fra_cons hf] at q
  rcases List.mem_cons.mp q with rfl | q
  · rw [hn] at hb; cases hb
  · exact hnl q
/-- texts want no heap -/
theorem Reps.texts {g g' : G} : ∀ {vs : List Value} {ts : List Str}, Reps g vs (ts.map .str) → Reps g' vs (ts.map .str)
  | [], [], _ => .nil
  | _ :: _, _ :: _, .cons (.str x t) h => .cons (.str x t) (Reps.texts h)
/-- an iterator over texts, with the frames out of sight -/
theorem ItAt.hidden {h : Heap} {a : ItA} {ts : List Str} {l : List Env} (hit : ItAt (fun b => h.get? b) h a (ts.map .str)) (h1 : a.1 ∉ fra l) (h2 : ∀ b o, b ∈ fra l → h.get? b = some o → ∀ xs n, o.data ≠ .seq xs n) :
    ItAt (fun b => (hideAll h (fra l)).get? b) (hideAll h (fra l)) a (ts.map .str) := by
  obtain ⟨i, o, vs, n, ⟨p, q1, q2⟩, q3, q4, q5, q6, q7, q8⟩ := hit
  exact ⟨i, o, vs, n, ⟨p, hideAll_get _ q1 h1, q2⟩, hideAll_get _ q3 (fun q => h2 _ _ q q3 _ _ q5), q4, q5, q6, q7, q8.texts⟩
theorem fra_mem {l : List Env} : ∀ env' ∈ l, ∀ b, env'.frame = some b → b ∈ fra l := fun env' he b hb => List.mem_filterMap.mpr ⟨env', he, hb⟩
theorem Fly.made {M : Model} {A : Around} {Q : Unit → Shared → Prop} {E : Value → Shared → Prop} {s : Shared} {H h base : Heap} {a : ItA} {ts : List Str} {env : Env} {l : List Env} {L e : Addr} {msg : Str} {tk : PySem.Tok}
    (hfr : A.frames = some (env :: l)) (hf : env.frame = some L) (hn : H.get? L = none) (hH : ∀ b p, H.get? b = some p → b ≠ a.1 → h.get? b = some p) (hl : h.FunFrames base (env :: l))
    (hx : Heap.MadeExcOf h s.heap e (.type "ValueError") [.str msg tk]) (hit : ItAt (fun b => h.get? b) h a (ts.map .str)) (h1 : a.1 ∉ fra (env :: l)) (h2 : ∀ b o, b ∈ fra (env :: l) → h.get? b = some o → ∀ xs n, o.data ≠ .seq xs n)
    (hQ : ∀ h', Fly H a (ts.map .str) l msg (.ref e) h' → Q () { s with heap := h' }) : wpAny M A (leaving env (.ref e)) Q E s := by
  obtain ⟨t, he, htn, ht⟩ := hx.there
  have hb : ∀ b o, (hideAll h (fra (env :: l))).get? b = some o → h.get? b = some o := fun b o q => of_hideAll _ q
  have nn : ∀ b, h.get? b = none → (hideAll h (fra (env :: l))).get? b = none := fun b hb' => by
    cases q : (hideAll h (fra (env :: l))).get? b with
    | none => rfl
    | some o => rw [hb _ _ q] at hb'; cases hb'
  exact Fly.first (B := hideAll h (fra (env :: l))) hfr hf hn (fun b p hb' hnl ha => hideAll_get _ (hH b p hb' ha) hnl) (fun b o hb' _ hne _ => ⟨o.slots, hx.keeps _ _ (hH b o hb' hne)⟩)
    (fun b o q => hx.keeps _ _ (hb _ _ q)) ((funFrames_hide hl fra_mem).of_keeps fun b o q _ => ⟨o, hx.keeps _ _ q, rfl⟩) he rfl rfl rfl rfl (nn e hx.new) ⟨_, _, ht, rfl, rfl⟩ (nn t htn) (hit.hidden h1 h2) hQ
end Mine
namespace Mine
theorem Fly.weaken {H H' : Heap} {a : ItA} {ds' : List D} {l : List Env} {msg : Str} {v : Value} {h : Heap} (x : Fly H a ds' l msg v h) (hH : ∀ b p, H'.get? b = some p → b ≠ a.1 → H.get? b = some p) : Fly H' a ds' l msg v h := by
  obtain ⟨e, B, t, tk, hv, hB, r1, r2, r3, r4, hS⟩ := x
  exact ⟨e, B, t, tk, hv, fun b p hb hl ha => hB b p (hH b p hb ha) hl ha, r1, r2, r3, r4, fun b o hb hm hne hnf => hS b o (hH b o hb hne) hm hne hnf⟩
/-- the frames around, as a heap holds them -/
structure FrOk (h : Heap) (l : List Env) : Prop where
  fun_ : h.FunFrames {} l
  nolist : ∀ b o, b ∈ fra l → h.get? b = some o → ∀ xs n, o.data ≠ .seq xs n
theorem FrOk.keep {h h' : Heap} {l : List Env} (x : FrOk h l) (k : ∀ b o, b ∈ fra l → h.get? b = some o → h'.get? b = some o) : FrOk h' l := by
  obtain ⟨x1, x2⟩ := x
  induction l with
  | nil => exact ⟨trivial, fun b o hb => by cases hb⟩
  | cons env l ih =>
    obtain ⟨hk, ⟨L, o, hf, hn, ho, hd⟩, hr⟩ := x1
    have hm : fra (env :: l) = L :: fra l := by unfold fra; rw [List.filterMap_cons, hf]
    have r := ih (fun b o hb => k b o (by rw [hm]; exact .tail _ hb)) hr (fun b o hb => x2 b o (by rw [hm]; exact .tail _ hb))
    have hL := k L o (by rw [hm]; exact .head _) ho
    refine ⟨⟨hk, ⟨L, o, hf, hn, hL, hd⟩, r.1⟩, fun b o' hb hb' => ?_⟩
    rw [hm] at hb
    rcases List.mem_cons.mp hb with rfl | hb
    · rw [hL] at hb'; cases hb'; exact x2 _ _ (by rw [hm]; exact .head _) ho
    · exact r.2 b o' hb hb'
/-- a def that takes an iterator first and raises -/
noncomputable def PFX (prog : Program) (w : World) (h₁ : Heap) (f : Addr) (n : Nat) (ds : List D) (args : List D) (msg : Str) (ds' : List D) : Prop :=
  ∀ (A : Around) (s : Shared) (g : G) (a : ItA) (ws : List Value) (l : List Env) (Q E : Value → Shared → Prop), A.handled = none → A.depth + n < recursionLimit → A.units + 8 * n + 64 < cLine → Keep h₁ s.heap → h₁.get? a.1 = none → g.In s.heap → ItAt g s.heap a ds → g a.1 = none → Reps g ws args →
    A.frames = some l → FrOk s.heap l → a.1 ∉ fra l →
    (∀ v h' tk, Fly s.heap a ds' l msg v h' → E v { s with heap := h', toks := tk }) → wpG true (model prog w) A (call (.ref f) (.ref a.1 :: ws)) Q E s
/-- what a body that raises wants of its frame -/
structure CfgR (c : Cfg) (l : List Env) : Prop where
  frames : c.A.frames = some (c.env :: l)
  frame : c.env.frame = some c.env.locals
  kind : c.env.scope.kind ≠ .module
  out : FrOk c.h₁ l
  cal : c.cal = true
/-- the frames, at any place of the body -/
theorem CfgR.at {c : Cfg} {l : List Env} (x : CfgR c l) (ok : c.Ok) {k : G} {N : Addr → Prop} {g : G} {m : Str → Option Value} {σ : Sig} {h : Heap} (w : W c k N g m σ h) : FrOk h (c.env :: l) ∧ c.h₁.get? c.env.locals = none := by
  have h0 : c.h₁.get? c.env.locals = none := by
    cases e : c.h₁.get? c.env.locals with
    | none => rfl
    | some o => have := w.base _ _ e; rw [(w.fpk _ ok.Lfp).1] at this; cases this
  have r := x.out.keep fun b o _ hb => w.kin _ _ (w.base _ _ hb)
  obtain ⟨m₀, ⟨o, es, ep, ho, hd, hrest⟩, _⟩ := w.fr.ns
  have hm : fra (c.env :: l) = c.env.locals :: fra l := by unfold fra; rw [List.filterMap_cons, x.frame]
  refine ⟨⟨⟨x.kind, ⟨_, o, x.frame, rfl, ho, fun vs e => by rw [hd] at e; cases e⟩, r.1⟩, fun b o' hb hb' => ?_⟩, h0⟩
  rw [hm] at hb
  rcases List.mem_cons.mp hb with rfl | hb
  · rw [ho] at hb'; cases hb'
    intro xs n e; rw [hd] at e; cases e
  · exact r.2 b o' hb hb'
end Mine
namespace Mine
section
variable {c : Cfg} {σ σ' : Sig} {Φ : AFlow → Sig → Prop} {rest : List Stmt}
/-- raise ValueError(text) -/
theorem SX.raise (ok : c.Ok) {l : List Env} (r : CfgR c l) {x : Str} {a : ItA} {ts : List Str} {e : Expr} {msg : Str} {np cpos pos : Pos} (hx : GL c "ValueError" none) (hl : Loc σ x (.it a (ts.map .str))) (he : EVs c σ [e] [.str msg])
    (h1 : a.1 ∉ fra l) : SX c (Fly c.h₁ a (ts.map .str) l msg) σ (.Raise (some (.Call (.Name "ValueError" np) [e] [] cpos)) none pos :: rest) Φ := by
  refine SX.step fun k N g m s w => wpAny_Raise_call PySem.F.excCall_ValueError PySem.F.excRaise_ValueError ok.hh he.noStar ?_
  refine W.builtin ok.toEv w hx (v := .type "ValueError") (by decide +kernel) (by decide) ⟨rfl, ?_⟩
  refine he.args k N g m s _ w fun vs h₁ g₁ t₁ k₁ w₁ l₁ r₁ => ?_
  cases r₁ with
  | cons r₁ r₂ =>
    cases r₂; cases r₁ with
    | str _ t =>
      refine ⟨rfl, (by decide : 1 ≤ sizeLine), fun h' e' hm => ?_⟩
      obtain ⟨fo, hn⟩ := r.at ok w₁
      obtain ⟨hm', hat, hka, hga, hfa⟩ := w₁.loc x _ hl.mem
      have hm2 : fra (c.env :: l) = c.env.locals :: fra l := by unfold fra; rw [List.filterMap_cons, r.frame]
      show Eof c _ s _ _
      unfold Eof
      refine Fly.made r.frames r.frame hn (fun b p hb _ => w₁.kin _ _ (w₁.base _ _ hb)) fo.fun_ (Heap.MadeExc.of hm) (hat.mono w₁.gin) (by rw [hm2]; exact fun q => (List.mem_cons.mp q).elim (fun q => hfa (q ▸ ok.Lfp)) h1) fo.nolist fun h'' hf => ⟨h'', _, rfl, hf⟩
end
end Mine
namespace Mine
theorem Stat.keep {h₁ H : Heap} {mg mb : Str → Option Value} (x : Stat h₁ mg mb) (k : Keep h₁ H) : Stat H mg mb := ⟨x.g.keeps k, x.b.keeps k, x.nolimit.keeps k, let ⟨mc, a, b⟩ := x.nodigits; ⟨mc, a.keeps k, b⟩, x.bi⟩
theorem PFX.of_body {prog : Program} {w : World} {h₁ : Heap} {mg mb : Str → Option Value} {f : Addr} {n : Nat} {x₀ : Str} {ds args args' : List D} {ts : List Str} {msg : Str} {o : Obj} {fd : FuncData} {body : List Stmt} {params names : List Str}
    (hst : Stat h₁ mg mb) (ho : h₁.get? f = some o) (hdata : o.data = .func fd) (hcd : h₁.CodeRec fd.code fd.qualname) (hbody : fd.body = .stmts body)
    (hgl : fd.globals = mainGlobals) (hcl : fd.closure = []) (hbl : fd.builtins = builtinsNs)
    (hlen : params.length = args'.length)
    (hbind : ∀ (s : Shared) (g : G) (v : Value) (ws : List Value), Keep h₁ s.heap → Reps g ws args → ∃ us, BindsTo s fd ⟨v :: ws, []⟩ ((x₀, v) :: params.zip us) ∧ Reps g us args')
    (hcell : ∀ x ∈ fd.scope.names, x.2 ≠ .cell) (hloc : ∀ x ∈ x₀ :: params ++ names, fd.scope.names.lookup x = some .local ∧ (x == ("__debug__" : Str)) = false) (hnod : (x₀ :: params ++ names).Nodup)
    (hco : fd.scope.isCoroutine = false) (hgen : fd.scope.isGenerator = false) (hk : fd.scope.kind = .function)
    (hsx : ∀ (H : Heap) (c : Cfg) (a : ItA) (l : List Env), Keep h₁ H → Stat H mg mb → c.Ok → c.Is prog w H mg → CfgR c l → a.1 ∉ fra l → c.env.scope = fd.scope → c.A.depth + n < recursionLimit → c.A.units + 8 * n + 64 < cLine → SX c (Fly c.h₁ a (ts.map .str) l msg) ((x₀, .it a ds) :: startSig names params args') body (fun _ _ => False)) :
    PFX prog w h₁ f (n + 1) ds args msg (ts.map .str) := by
  intro A s g a ws l Q E hh hd hu hk₁ ha₁ hg hat hga hr hfr hfo haf q
  obtain ⟨us, hb, hr'⟩ := hbind s g (.ref a.1) ws hk₁ hr
  have hlu : params.length = us.length := by rw [hlen, hr'.length]
  refine wpG.call (codeG.call (fd := fd) (body := body) (binds := (x₀, .ref a.1) :: params.zip us) (by omega) (hk₁ _ _ ho) hdata (hst.nolimit.keeps hk₁) (hcd.keeps hk₁) hbody hb hcell (fun x hx => ?_) (fun h₀ hns hk₂ => ?_) hco hgen hk)
  · rcases List.mem_cons.mp hx with rfl | hx
    · exact (hloc _ (.head _)).1
    · exact (hloc _ (.tail _ (List.mem_append_left _ (List.of_mem_zip hx).1))).1
  generalize henv : callEnv fd s.heap.objs.size f = env
  have e1 : env.scope = fd.scope := by rw [← henv]; rfl
  have e2 : env.locals = s.heap.objs.size := by rw [← henv]; rfl
  have e3 : env.globals = mainGlobals := by rw [← henv]; exact hgl
  have e4 : env.builtins = builtinsNs := by rw [← henv]; exact hbl
  have e5 : env.cells = [] := by rw [← henv]; exact hcl
  have hL0 : s.heap.get? s.heap.objs.size = none := Heap.get?_none_of_le (Nat.le_refl _)
  have hLl : h₀.get? s.heap.objs.size ≠ none := by obtain ⟨o, _, _, e, _⟩ := hns; rw [e]; exact fun e => nomatch e
  have haL : a.1 ≠ s.heap.objs.size := fun e => by have := hat.live; rw [e] at this; exact this hL0
  have hkeys := startSig_keys (names := names) hlen
  have hnd : ((x₀, Value.ref a.1) :: params.zip us).map (·.1) = x₀ :: params := by
    rw [List.map_cons, List.map_fst_zip (by rw [hlu]; exact Nat.le_refl _)]
  have hnp : (x₀ :: params).Nodup := by
    have : (x₀ :: params) ++ names = x₀ :: params ++ names := rfl
    exact (List.nodup_append.mp (this ▸ hnod)).1
  have hlook : ∀ x u, (x, u) ∈ (x₀, Value.ref a.1) :: params.zip us → ((x₀, Value.ref a.1) :: params.zip us).reverse.lookup x = some u := fun x u hm => by
    refine lookup_of_nodup (List.mem_reverse.mpr hm) ?_
    rw [List.map_reverse, hnd]
    exact (List.reverse_perm _).nodup_iff.mpr hnp
  have hKH : Keep h₁ (s.heap.hide a.1) := fun b o e => (Heap.hide_ne _ (fun q => by rw [q, ha₁] at e; cases e)).trans (hk₁ _ _ e)
  have e6 : env.frame = some env.locals := by rw [← henv]; rfl
  have hw : W { prog := prog, w := w, A := A.deeper env, h₁ := s.heap.hide a.1, mg := mg, mb := mb, env := env, fp := [s.heap.objs.size], cal := true } (fun b => if b = a.1 then none else s.heap.get? b) (fun b => b ≠ a.1 ∧ s.heap.get? b ≠ none ∧ g b = none) g (fun x => ((x₀, Value.ref a.1) :: params.zip us).reverse.lookup x) ((x₀, .it a ds) :: startSig names params args') h₀ := by
    refine { base := fun b o e => ?_, kin := fun b o e => ?_, gin := fun b o e => hk₂ _ _ (hg _ _ e), fpk := fun p hp => ?_, fpl := fun p hp => ?_, nN := fun b hb => ⟨?_, hb.2.2⟩, fr := ⟨⟨_, e2 ▸ hns, fun _ _ => rfl⟩, fun x p _ h => ?_⟩, cel := fun x p h => ?_, Lfp := by show env.locals ∈ _; rw [e2]; exact .head _, nod := by rw [List.map_cons, hkeys]; exact hnod, lcl := ?_, loc := fun x v hx => ?_, sep := fun x u y v b hx hy hf hf' => ?_ }
    · dsimp only at e
      by_cases hb : b = a.1
      · rw [hb, Heap.hide_self] at e; cases e
      · rw [if_neg hb]; rwa [Heap.hide_ne _ hb] at e
    · dsimp only at e
      by_cases hb : b = a.1
      · rw [if_pos hb] at e; cases e
      · rw [if_neg hb] at e; exact hk₂ _ _ e
    · rw [List.mem_singleton.mp hp]; exact ⟨by rw [if_neg (Ne.symm haL)]; exact hL0, hg.none_size⟩
    · rw [List.mem_singleton.mp hp]; exact hLl
    · rw [if_neg hb.1]; exact hb.2.1
    · dsimp only at h; rw [e5] at h; cases h
    · dsimp only at h; rw [e5] at h; cases h
    · rw [List.map_cons, hkeys]; intro x hx; refine ⟨.inl ?_, (hloc x hx).2⟩; dsimp only; unfold Env.kindOf; rw [e1]; exact (hloc x hx).1
    · rcases List.mem_cons.mp hx with e | hx
      · cases e
        exact ⟨hlook _ _ (.head _), hat.at' fun o e => hk₂ _ _ e, if_pos rfl, hga, fun hm => haL (List.mem_singleton.mp hm)⟩
      · exact startSig_holds hr' (fun x u hm => hlook x u (.tail _ hm)) x v hx
    · rcases List.mem_cons.mp hx with e | hx
      · rcases List.mem_cons.mp hy with e' | hy
        · cases e; cases e'; exact fun _ _ => rfl
        · rw [startSig_free hy] at hf'; cases hf'
      · rw [startSig_free hx] at hf; cases hf
  refine (hsx (s.heap.hide a.1) { prog := prog, w := w, A := A.deeper env, h₁ := s.heap.hide a.1, mg := mg, mb := mb, env := env, fp := [s.heap.objs.size], cal := true } a l hKH (hst.keep hKH) ⟨⟨hst.keep hKH, by dsimp only; rw [e1]; exact hk, e3, e4, hh, by show A.units + 3 + 64 < _; omega, by show A.depth + 1 < _; omega⟩, by dsimp only; rw [e2]; exact .head _, fun x p h => (by dsimp only at h; rw [e5] at h; cases h), fun x y p h => (by dsimp only at h; rw [e5] at h; cases h), fun x p h => (by dsimp only at h; rw [e5] at h; cases h)⟩ ⟨rfl, rfl, rfl, rfl⟩ ⟨Around.frames_deeper hfr, e6, (by dsimp only; rw [e1, hk]; decide), hfo.keep fun b o hb e => (Heap.hide_ne _ (show b ≠ a.1 from fun q => haf (q ▸ hb))).trans e, rfl⟩ haf e1 (by show A.depth + 1 + n < _; omega) (by show A.units + 3 + 8 * n + 64 < _; omega) _ _ g _ { s with heap := h₀, toks := s.toks + ((x₀, Value.ref a.1) :: params.zip us).length } hw).mono (fun fl s' hf => ?_) fun v s' e => wpAny_mono e (fun _ s'' hq => ?_) fun _ _ q => q.elim
  · obtain ⟨_, _, _, _, _, _, _, _, _, hF⟩ := hf; exact hF.elim
  · obtain ⟨h', tk, rfl, hF⟩ := hq
    exact q v h' tk (hF.weaken fun b p hb hne => (Heap.hide_ne _ hne).trans hb)
end Mine
namespace Mine
section
variable {c : Cfg} {σ σ' : Sig} {Φ : AFlow → Sig → Prop} {rest : List Stmt}
/-- an expression that raises: the error flies over this frame too -/
noncomputable def EXR (c : Cfg) (l : List Env) (σ : Sig) (e : Expr) (a : ItA) (ds' : List D) (msg : Str) : Prop :=
  ∀ (k : G) (N : Addr → Prop) (g : G) (m : Str → Option Value) (s : Shared) (Q E : Value → Shared → Prop), W c k N g m σ s.heap →
    (∀ v h' tk, Fly c.h₁ a ds' (c.env :: l) msg v h' → E v { s with heap := h', toks := tk }) → wpG true c.M c.A (eval e c.env) Q E s
theorem EXR.callP {prog : Program} {w : World} {h₁ : Heap} {mg : Str → Option Value} (ok : c.Ok) {l : List Env} (r : CfgR c l) (is : c.Is prog w h₁ mg) {x y : Str} {p p1 pos : Pos} {es : List Expr} {as ds ds' : List D} {a : ItA} {f : Addr} {n : Nat} {msg : Str} (hx : GL c x (some (.ref f))) (hf : IsFn h₁ f) (hl : Loc σ y (.it a ds)) (hs : EVs c σ es as) (hF : PFX prog w h₁ f n ds as msg ds') (haf : a.1 ∉ fra l)
    (hdp : c.A.depth + n < recursionLimit) (hun : c.A.units + 8 * n + 64 < cLine) : EXR c l σ (.Call (.Name x p) (.Name y p1 :: es) [] pos) a ds' msg := by
  obtain ⟨rfl, rfl, rfl, rfl⟩ := is
  intro k N g m s Q E w q
  refine wpG.callName (W.global ok.toEv w hx ?_)
  obtain ⟨o, fd, ho, hfd⟩ := hf
  obtain ⟨hm, hat, hka, hga, hfa⟩ := w.loc y _ hl.mem
  have hbt : backTo pos (starEach (.Name y p1 :: es) c.env) = (false, eval (.Name y p1) c.env) :: es.map fun e => (false, eval e c.env) := by
    have : backTo pos (starEach (.Name y p1 :: es) c.env) = (false, eval (.Name y p1) c.env) :: backTo pos (starEach es c.env) := rfl
    rw [this, hs.plain]
  refine wpG.callDef (o := o) (fd := fd) ?_
  rw [hbt]
  refine Calls.evalArgs_plain (Calls.spliced_cons (wpAny_Name (w.load ok.toEv hl hm (hs.splice k N g m s _ E w fun vs h₂ g₂ t₂ k₂ w₂ l₂ r₂ => ⟨⟨w₂.keep₁ _ _ ho, hfd⟩, ?_⟩)) (w.nodebug hl)))
  obtain ⟨_, hat₂, _, hga₂, _⟩ := w₂.loc y _ hl.mem
  have hm2 : fra (c.env :: l) = c.env.locals :: fra l := by unfold fra; rw [List.filterMap_cons, r.frame]
  refine hF c.A _ g₂ a vs (c.env :: l) _ E ok.hh hdp hun w₂.keep₁ ?_ w₂.gin hat₂ hga₂ r₂ r.frames (r.at ok w₂).1 (by rw [hm2]; exact fun q => (List.mem_cons.mp q).elim (fun q => hfa (q ▸ ok.Lfp)) haf) fun v h₃ t₃ hy => ?_
  · cases e : c.h₁.get? a.1 with
    | none => rfl
    | some o => rw [w.base _ _ e] at hka; cases hka
  · exact q v h₃ t₃ (hy.weaken fun b p hb _ => w₂.kin _ _ (w₂.base _ _ hb))
/-- the error leaves the frame -/
theorem Fly.eof {l : List Env} (ok : c.Ok) (r : CfgR c l) {k : G} {N : Addr → Prop} {g : G} {m : Str → Option Value} {s s₀ : Shared} (w : W c k N g m σ s₀.heap) {a : ItA} {ds' : List D} {msg : Str} {v : Value} {h' : Heap} {tk : Nat} (x : Fly c.h₁ a ds' (c.env :: l) msg v h') : Eof c (Fly c.h₁ a ds' l msg) s v { s with heap := h', toks := tk } := by
  unfold Eof
  exact Fly.leave r.frames r.frame (r.at ok w).2 x fun h'' hf => ⟨h'', _, rfl, hf⟩
end
end Mine
namespace Mine
section
variable {c : Cfg} {σ σ' : Sig} {Φ : AFlow → Sig → Prop} {rest : List Stmt}
/-- x, y = f(it, ..) that raises -/
theorem SX.unpackR {l : List Env} (ok : c.Ok) (r : CfgR c l) {x y : Str} {e : Expr} {a : ItA} {ds' : List D} {msg : Str} {p p1 p2 p3 : Pos} {kk : Nat} (he : EXR c l σ e a ds' msg)
    (hs : swapsWithSole [.Tuple [.Name x p1, .Name y p2] kk p3] e p.line c.env = pure false) (hw : swappedStores [.Tuple [.Name x p1, .Name y p2] kk p3] e c.env = pure none) :
    SX c (Fly c.h₁ a ds' l msg) σ (.Assign [.Tuple [.Name x p1, .Name y p2] kk p3] e p :: rest) Φ := by
  refine SX.stepG fun k N g m s w => r.cal ▸ wpG.unpack (he k N g m s _ _ w fun v h' tk hy => hy.eof ok r w) hs hw
end
end Mine
namespace Mine
theorem typeCall_int3 (a b : Value) : checkTypeCall "int" ⟨[a, b], []⟩ = pure () := by kernel_rfl
theorem newCall_int3 (a b : Value) : checkBuiltinCall "int.__new__" ⟨[.type "int", a, b], []⟩ = pure () := by kernel_rfl
section
variable {prog : Program} {w : World} {A : Around} {E : Value → Shared → Prop} {s : Shared} {R : Result → Shared → Prop}
theorem type_call_int {x y : Value} {Q : PySem.Fin → Shared → Prop}
    (h : wpG true (model prog w) A (call (.builtin "int.__new__") [.type "int", x, y]) (fun _ _ => False) E s) : wpG true (model prog w) A (Builtin.«type.__call__» ⟨[.type "int", x, y], []⟩) Q E s := by
  obtain ⟨c, tl, hmro⟩ := F.called_int.mro
  unfold Builtin.«type.__call__»
  dsimp only
  rw [if_neg (by decide), if_neg (by rw [F.called_int.canCreate]; decide)]
  refine .seq (wpAny_of_eq (typeCall_int3 x y) (.seq (wpAny_of_eq hmro ?_)))
  rw [if_neg (by simp)]
  refine .seq (wpAny_of_eq F.called_int.made ?_)
  exact .seq (wpAny_pure (.bind (.holding (h.mono (fun _ _ f => f.elim) fun _ _ e => e))))
theorem codeG.builtin {b : Bool} {id : String} {args : Args} {B : Builtin} (hb : entryFor table id = some B)
    (h : wpG b (model prog w) (A.under (.builtin id args)) (B args) (fun fin s' => match fin with | .done f => R (.ok f) s' | .again c' => c'.quiet = true ∧ codeG b (model prog w) A c' R s') (fun e s' => R (.error e) s') s) : codeG b (model prog w) A (.builtin id args) R s := by
  refine .tree ?_
  show wpG b _ _ (match entryFor table id with | some b => b args | none => unsupported ((withoutEnding? id "#data").getD id)) _ _ s
  rw [hb]; exact h
/-- int(x, y) that raises -/
theorem call_int_bad {x y : Value} {Q : Value → Shared → Prop}
    (h : wpG true (model prog w) A.in1.in1 (Builtin.«int.__new__» ⟨[.type "int", x, y], []⟩) (fun _ _ => False) E s) : wpG true (model prog w) A (call (.type "int") [x, y]) Q E s := by
  refine .call (.tree ?_)
  show wpG _ _ _ (callAny (.type "int") _) _ _ _
  refine .pure ⟨Code.quiet_builtin _ (by decide +kernel), .builtin F.entry_type_call ?_⟩
  rw [Around.under_plain (weight_type_call_type "int" _ []) (units_type_call_type "int" _ [])]
  refine type_call_int (.call (.tree ?_))
  show wpG _ _ _ (do checkBuiltinCall "int.__new__" ⟨[.type "int", x, y], []⟩; again (.builtin "int.__new__" ⟨[.type "int", x, y], []⟩)) _ _ _
  refine .seq (wpAny_of_eq (newCall_int3 x y) (.pure ⟨plainId_quiet F.called_int.plain _, .builtin F.entry_int_new ?_⟩))
  rw [Around.under_plainId F.called_int.plain]
  exact h.mono (fun _ _ f => f.elim) fun _ _ e => e
theorem wpG.ifF {α : Type} {b : Bool} {M : Model} {c : Prop} [Decidable c] {x y : Sem α} {Q : α → Shared → Prop} (hc : ¬ c) (h : wpG b M A y Q E s) : wpG b M A (if c then x else y) Q E s := by rw [if_neg hc]; exact h
theorem cut_length (r : Str) : (Str.mk (r.cps.extract 0 200)).length ≤ 200 := by
  show (r.cps.extract 0 200).size ≤ 200
  rw [Array.size_extract]; omega
theorem refuse {r : Str} {tk : Nat} {Q : Value → Shared → Prop} (hh : A.handled = none) (hE : ∀ v h' e tk, Heap.MadeExc s.heap h' e "ValueError" [v] → E (.ref e) { s with heap := h', toks := tk }) :
    wpG true (model prog w) A (do
      let m ← mkStr (Str.ofString (toString "invalid literal for int() with base " ++ toString (10 : Nat) ++ toString ": ") ++ ⟨r.cps.extract 0 200⟩)
      let refusal ← newExc (Value.type "ValueError") [m]
      markTheRefusal ["int.__new__"] refusal
      raiseNew refusal) Q E { s with toks := tk } := by
  have h0 : (Str.ofString (toString "invalid literal for int() with base " ++ toString (10 : Nat) ++ toString ": ")).length ≤ 100 := by decide +kernel
  have h1 := cut_length r
  refine .seq (wpAny_mkStr ?_ (by rw [Str.length_append, sizeLine_eq]; omega))
  refine .seq (wpAny_newExc_plain plainExc_ValueError (fun h' e hm => ?_) (by rw [sizeLine_eq]; simp))
  exact .bind (wpG.mark (.of (wpAny_raiseNew_none hh (hE _ _ _ _ hm))))
set_option maxHeartbeats 4000000 in
theorem text_bad {x : Str} {t : PySem.Tok} {Q : Value → Shared → Prop} (hh : A.handled = none) (hl : x.length ≤ 640) (hn : PySem.intText? x = none) (hr : (reprText x).length ≤ sizeLine)
    (hE : ∀ v h' e tk, Heap.MadeExc s.heap h' e "ValueError" [v] → E (.ref e) { s with heap := h', toks := tk }) : wpG true (model prog w) A ((int_private% "intFromText") (.str x t) (numTextOf x) 10) Q E s := by
  show wpG _ _ _ (if (numSeenOf x).length ≤ 640 then _ else _) _ _ _
  have hs : (numSeenOf x).length ≤ 640 := Nat.le_trans (PySem.seen_length x) hl
  rw [if_pos hs]
  refine .seq (wpAny_pure ?_)
  dsimp only
  have kb : wpAny (model prog w) A ((int_private% "bytesOf?") (.str x t)) (fun r s₂ => r = none ∧ s₂ = s) E s := by
    obtain ⟨hp, g, d, tk, os⟩ := s
    repeat (any_goals (first | assumption | wp_step))
    exact ⟨rfl, rfl⟩
  rcases read0 x hs with ⟨m, h1, _⟩ | ⟨_, h2 | ⟨i, h2, h3⟩⟩
  · rw [hn] at h1; cases h1
  · rw [show (List.takeWhile (fun x => x != 0) (numTextOf x)) = numSeenOf x from rfl, h2]
    refine .seq (wpAny_mono kb (fun r s₂ hr => ?_) fun _ _ e => e)
    obtain ⟨rfl, rfl⟩ := hr
    refine .ifF (by simp) ?_
    refine .seq (wpAny_rule (.seq (wpAny_mono kb (fun r s₂ hr => ?_) fun _ _ e => e)))
    obtain ⟨rfl, rfl⟩ := hr
    dsimp only
    refine .seq (wpAny_pyRepr_str ?_ hr)
    exact refuse hh hE
  · rw [show (List.takeWhile (fun x => x != 0) (numTextOf x)) = numSeenOf x from rfl, h2]
    refine .ifF h3 ?_
    refine .seq (wpAny_rule (.seq (wpAny_mono kb (fun r s₂ hr => ?_) fun _ _ e => e)))
    obtain ⟨rfl, rfl⟩ := hr
    dsimp only
    refine .seq (wpAny_pyRepr_str ?_ hr)
    exact refuse hh hE
set_option maxHeartbeats 4000000 in
theorem int_new_bad {x : Str} {t u : PySem.Tok} {Q : PySem.Fin → Shared → Prop} (hh : A.handled = none) (hl : x.length ≤ 640) (hn : PySem.intText? x = none) (hr : (reprText x).length ≤ sizeLine)
    (hE : ∀ v h' e tk, Heap.MadeExc s.heap h' e "ValueError" [v] → E (.ref e) { s with heap := h', toks := tk }) : wpG true (model prog w) A (Builtin.«int.__new__» ⟨[.type "int", .str x t, .int 10 u], []⟩) Q E s := by
  unfold Builtin.«int.__new__»
  dsimp only
  refine .seq (wpAny_of_eq (show isType (.type "int") = pure true from rfl) (.ifF (by decide) ?_))
  refine .seq (wpAny_of_eq F.conv_sub_int (.ifF (by decide) ?_))
  refine .seq (wpAny_of_eq F.madeHere_int (.ifF (by simp) (.ifF (by simp) ?_)))
  simp only [List.forIn_nil]
  refine .seq (wpAny_pure ?_)
  show wpG _ _ _ (Builtin.Int.intIndex "int.__new__" (.int 10 u) >>= _) _ _ _
  have k1 : wpAny (model prog w) A (Builtin.Int.intIndex "int.__new__" (.int 10 u)) (fun b s' => b = 10 ∧ s' = s) E s := by
    obtain ⟨hp, g, d, tk, os⟩ := s
    repeat (any_goals (first | assumption | wp_step))
    exact ⟨rfl, rfl⟩
  refine .seq (wpAny_mono k1 (fun b s' hb => ?_) fun _ _ e => e)
  obtain ⟨rfl, rfl⟩ := hb
  refine .ifF (by decide) ?_
  have k2 : wpAny (model prog w) A ((int_private% "numeralText?") (.str x t)) (fun r s₂ => r = some (numTextOf x) ∧ s₂ = s') E s' := by
    obtain ⟨hp, g, d, tk, os⟩ := s'
    repeat (any_goals (first | assumption | wp_step))
    exact ⟨rfl, rfl⟩
  refine .seq (wpAny_mono k2 (fun b s' hb => ?_) fun _ _ e => e)
  obtain ⟨rfl, rfl⟩ := hb
  exact .bind (text_bad hh hl hn hr hE)
/-- int(x, 10) of a text that is no number -/
theorem int_bad {x : Str} {t u : PySem.Tok} {Q : Value → Shared → Prop} (hh : A.handled = none) (hl : x.length ≤ 640) (hn : PySem.intText? x = none) (hr : (reprText x).length ≤ sizeLine)
    (hE : ∀ v h' e tk, Heap.MadeExc s.heap h' e "ValueError" [v] → E (.ref e) { s with heap := h', toks := tk }) : wpG true (model prog w) A (call (.type "int") [.str x t, .int 10 u]) Q E s :=
  call_int_bad (int_new_bad hh hl hn hr hE)
end
end Mine
namespace Mine
theorem entry_unchain : entryFor table "proto.unchain" = some Builtin.«proto.unchain» := entryFor_of_tree (by kernel_rfl)
section
variable {prog : Program} {w : World} {A : Around} {E : Value → Shared → Prop} {s : Shared} {env : Env}
theorem setField_rule {a : Addr} {o : Obj} {vs : Array Value} {i : Nat} {v : Value} {Q : Unit → Shared → Prop} (ho : s.heap.get? a = some o) (hd : o.data = .fields vs) (hi : i < vs.size) (h : Q () { s with heap := s.heap.update a (Obj.mapFields (·.setIfInBounds i v)) }) : wpAny (model prog w) A (updateField a i v) Q E s := by
  unfold updateField
  refine wpAny_bind (wpAny_load ho ?_)
  rw [hd]
  dsimp only
  rw [if_pos hi]
  exact wpAny_update ho h
/-- the look for a ring of contexts: the one handled has none -/
theorem unchain_rule {e h0 : Addr} {o : Obj} {vs : Array Value} {Q : Value → Shared → Prop} (ho : s.heap.get? h0 = some o) (hd : o.data = .fields vs) (h2 : vs[2]? = some .none) (h : Q .none s) : wpAny (model prog w) A (runValue (.builtin "proto.unchain" ⟨[.ref e, .ref h0, .ref h0, .bool false], []⟩)) Q E s := by
  refine wpAny_runValue (codeAny_builtin entry_unchain ?_)
  unfold Builtin.«proto.unchain»
  dsimp only
  refine wpAny_bind (wpAny_field ho hd h2 ?_)
  rw [if_pos (by decide)]
  exact wpAny_pure h
/-- raise x from None, x a new ValueError, under an error that is handled -/
theorem raise_from {x : Expr} {pos cpos : Pos} {kk : Nat} {e0 : Addr} {Q : Flow → Shared → Prop} (hh : A.handled = some (.ref e0))
    (h : wpAny (model prog w) A (eval x env) (fun v s₁ => ∃ e t, v = .ref e ∧ s₁.heap.get? e = some { cls := .type "ValueError", data := .fields #[.ref t, .none, .none, .none, .bool false, .none] } ∧ e ≠ e0 ∧
      (∃ o vs, s₁.heap.get? e0 = some o ∧ o.data = .fields vs ∧ vs[2]? = some .none) ∧
      ∀ h', Heap.SameBut e s₁.heap h' → h'.get? e = some { cls := .type "ValueError", data := .fields #[.ref t, .none, .ref e0, .none, .bool true, .none] } → E (.ref e) { s₁ with heap := h' }) E s) :
    wpAny (model prog w) A (exec (.Raise (some x) (some (.Constant .none kk cpos)) pos) env) Q E s := by
  rw [arm_exec_Raise]
  refine wpAny_bind (wpAny_standAt ?_)
  unfold raiseStmt
  simp only [evalOpt, Option.map]
  refine wpAny_bind (wpAny_bind (wpAny_mono h (fun v s₁ h₁ => wpAny_bind (wpAny_standAt (wpAny_pure ?_))) fun _ _ e => e))
  obtain ⟨e, t, rfl, he, hne, ⟨o0, vs0, ho0, hd0, h20⟩, hE⟩ := h₁
  have hsub := (PySem.F.excRaise_ValueError).isExc
  have hmeta := (PySem.F.excRaise_ValueError).plainMeta
  have hT : s₁.TypeIs (.ref e) "ValueError" := ⟨_, he, rfl⟩
  have hnt : ∀ {s' : Shared} {o : Obj} {vs : Array Value} {Q' : Bool → Shared → Prop}, s'.heap.get? e = some o → o.data = .fields vs → Q' false s' → wpAny (model prog w) A (isType (.ref e)) Q' E s' := by
    intro s' o vs Q' ho hd hq
    simp only [isType, loadHead]
    refine wpAny_bind (wpAny_loadPart ho ?_)
    rw [hd]; exact wpAny_pure hq
  have kc : wpAny (model prog w) A (eval (.Constant .none kk cpos) env) (fun v s' => v = Value.none ∧ s' = s₁) E s₁ := wpAny_pure ⟨rfl, rfl⟩
  refine wpAny_bind (wpAny_holding (wpAny_bind (wpAny_mono kc (fun v s' hv => ?_) fun _ _ e => e)))
  obtain ⟨rfl, rfl⟩ := hv
  refine wpAny_bind (wpAny_standAt (wpAny_pure (wpAny_bind (wpAny_pure ?_))))
  refine wpAny_bind (wpAny_holding ?_)
  unfold excFromValue isExcClass
  refine wpAny_bind (wpAny_bind (hnt he rfl ?_))
  simp only [Bool.false_eq_true, if_false]
  refine wpAny_pure ?_
  simp only [Bool.false_eq_true, if_false]
  refine wpAny_bind (wpAny_isInstance hT hsub ?_)
  simp only [if_true]
  refine wpAny_pure ?_
  rw [if_pos (by decide)]
  refine wpAny_bind (wpAny_pure ?_)
  refine wpAny_bind (wpAny_setField he rfl (by simp) ?_)
  generalize hh1 : s'.heap.update e (Obj.mapFields (·.setIfInBounds 3 Value.none)) = h1
  have s1 : Heap.SameBut e s'.heap h1 := hh1 ▸ Heap.SameBut.update ..
  have e1 : h1.get? e = some { cls := .type "ValueError", data := .fields #[.ref t, .none, .none, .none, .bool false, .none] } := by rw [← hh1]; exact Heap.get?_update_self _ he rfl
  refine wpAny_bind (wpAny_setField e1 rfl (by simp) ?_)
  dsimp only
  generalize hh2 : h1.update e (Obj.mapFields (·.setIfInBounds 4 (Value.bool true))) = h2
  have s2 : Heap.SameBut e h1 h2 := hh2 ▸ Heap.SameBut.update ..
  have e2 : h2.get? e = some { cls := .type "ValueError", data := .fields #[.ref t, .none, .none, .none, .bool true, .none] } := by rw [← hh2]; exact Heap.get?_update_self _ e1 rfl
  refine wpAny_bind (hnt e2 rfl ?_)
  simp only [Bool.false_eq_true, if_false]
  unfold raisedInstance
  refine wpAny_bind (wpAny_bind (wpAny_typeOf (T := "ValueError") ⟨_, e2, rfl⟩ (wpAny_bind (m := typeOf (.type "ValueError")) (wpAny_pure ?_))))
  rw [if_pos hmeta]
  refine wpAny_pure ?_
  unfold setFlight raiseNew
  refine wpAny_bind (wpAny_bind (wpAny_field e2 rfl (x := .none) rfl ?_))
  rw [if_neg (by decide)]
  refine wpAny_pure (wpAny_bind (wpAny_handled ?_))
  rw [hh]
  dsimp only
  rw [if_pos (by simp; exact fun q => hne q.symm)]
  have o2 : h2.get? e0 = some o0 := (s2.2 _ (Ne.symm hne)).trans ((s1.2 _ (Ne.symm hne)).trans ho0)
  refine wpAny_bind (wpAny_holding (unchain_rule o2 hd0 h20 ?_))
  refine wpAny_bind (setField_rule e2 rfl (by simp) ?_)
  generalize hh3 : h2.update e (Obj.mapFields (·.setIfInBounds 2 (Value.ref e0))) = h3
  have s3 : Heap.SameBut e h2 h3 := hh3 ▸ Heap.SameBut.update ..
  have e3 : h3.get? e = some { cls := .type "ValueError", data := .fields #[.ref t, .none, .ref e0, .none, .bool true, .none] } := by rw [← hh3]; exact Heap.get?_update_self _ e2 rfl
  exact wpAny_throw (hE h3 ((s1.trans s2).trans s3) e3)
end
end Mine
namespace Mine
/-- up to the slots of the objects -/
noncomputable def KeepU (h h' : Heap) : Prop := ∀ b o, h.get? b = some o → ∃ sl, h'.get? b = some { o with slots := sl }
theorem KeepU.of {h h' : Heap} (k : Keep h h') : KeepU h h' := fun b o e => ⟨o.slots, k b o e⟩
theorem KeepU.trans {h₁ h₂ h₃ : Heap} (x : KeepU h₁ h₂) (y : KeepU h₂ h₃) : KeepU h₁ h₃ := fun b o e => by
  obtain ⟨sl, e₁⟩ := x b o e
  exact y b { o with slots := sl } e₁
theorem KeepU.ns {h h' : Heap} {a : Addr} {m : Str → Option Value} (x : KeepU h h') (n : h.Ns a m) : h'.Ns a m := by
  obtain ⟨o, es, ep, ho, r⟩ := n
  obtain ⟨sl, e⟩ := x _ _ ho
  exact ⟨_, es, ep, e, r⟩
theorem KeepU.codeRec {h h' : Heap} {cd : Value} {q : Str} (x : KeepU h h') (n : h.CodeRec cd q) : h'.CodeRec cd q := by
  obtain ⟨c, o, vs, t, e, ho, r⟩ := n
  obtain ⟨sl, e'⟩ := x _ _ ho
  exact ⟨c, _, vs, t, e, e', r⟩
theorem KeepU.stat {h h' : Heap} {mg mb : Str → Option Value} (k : KeepU h h') (x : Stat h mg mb) : Stat h' mg mb := ⟨k.ns x.g, k.ns x.b, let ⟨mc, a, b⟩ := x.nolimit; ⟨mc, k.ns a, b⟩, let ⟨mc, a, b⟩ := x.nodigits; ⟨mc, k.ns a, b⟩, x.bi⟩
/-- what expressions want of a frame, with an error at hand or none -/
structure Cfg.Ev0 (c : Cfg) : Prop where
  st : Stat c.h₁ c.mg c.mb
  hk : c.env.scope.kind = .function
  hg : c.env.globals = mainGlobals
  hb : c.env.builtins = builtinsNs
section
variable {c : Cfg} {σ : Sig} {EE : Value → Shared → Prop}
theorem W.load0 (ok : c.Ev0) {k g : G} {N : Addr → Prop} {m : Str → Option Value} {s : Shared} {x : Str} {v : AV} {u : Value} {Q E : Value → Shared → Prop} (w : W c k N g m σ s.heap) (hl : Loc σ x v) (hm : m x = some u) (h : Q u s) : wpAny c.M c.A (loadName c.env x) Q E s := by
  rcases w.kind hl with hk | ⟨hk, p, hp⟩
  · obtain ⟨m₀, h1, h2⟩ := w.fr.ns
    exact wpAny_loadName_local ok.hk hk h1 ((h2 x hk).trans hm) h
  · have h1 := w.fr.cl x p hk hp
    rw [hm] at h1
    exact wpAny_loadName_cell ok.hk hk hp h1 h
theorem EV.name0 (ok : c.Ev0) {x : Str} {d : D} {pos : Pos} (hl : Loc σ x (.val d)) : EV c σ (.Name x pos) d := by
  intro k N g m s Q E w h
  obtain ⟨u, hm, hr⟩ := w.name hl
  exact wpAny_Name (w.load0 ok hl hm (h u s.heap g s.toks (Keep.refl _) w (Le.refl _) hr)) (w.nodebug hl)
theorem W.builtin0 (ok : c.Ev0) {k g : G} {N : Addr → Prop} {m : Str → Option Value} {s : Shared} {x : Str} {v : Value} {pos : Pos} {Q : Value → Shared → Prop} (w : W c k N g m σ s.heap) (hx : GL c x none) (hb : bootBuiltins x = some v) (hn : x ≠ "__name__") (h : Q v s) : wpAny c.M c.A (eval (.Name x pos) c.env) Q EE s :=
  PySem.Calls.Name_function_global ok.hk hx.1 (PySem.Calls.loadGlobal_builtin (by rw [ok.hg]; exact ok.st.g.keeps w.keep₁) hx.2.2 (by rw [ok.hb]; exact ok.st.b.keeps w.keep₁) ((ok.st.bi x hn).trans hb) h) hx.2.1
end
/-- a def that gives a new ValueError with one text -/
noncomputable def FNE (prog : Program) (w : World) (h₁ : Heap) (f : Addr) (n : Nat) (args : List D) (msg : Str) : Prop :=
  ∀ (A : Around) (s : Shared) (g : G) (vs : List Value) (Q E : Value → Shared → Prop), A.depth + n < recursionLimit → A.units + 8 * n + 64 < cLine → KeepU h₁ s.heap → g.In s.heap → Reps g vs args →
    (∀ e h h' tk tk', Keep s.heap h → Heap.MadeExcOf h h' e (.type "ValueError") [.str msg tk'] → Q (.ref e) { s with heap := h', toks := tk }) → wpAny (model prog w) A (call (.ref f) vs) Q E s
/-- statements that end in the return of a new ValueError -/
noncomputable def RX (c : Cfg) (σ : Sig) (ss : List Stmt) (msg : Str) : Prop :=
  ∀ (k : G) (N : Addr → Prop) (g : G) (m : Str → Option Value) (s : Shared) (EE : Value → Shared → Prop), W c k N g m σ s.heap →
    wpAny c.M c.A (execs ss c.env) (fun fl s' => ∃ e h h' tk tk', fl = .ret (.ref e) ∧ s' = { s with heap := h', toks := tk } ∧ k.In h ∧ Heap.MadeExcOf h h' e (.type "ValueError") [.str msg tk']) EE s
theorem RX.ret {c : Cfg} {σ : Sig} {rest : List Stmt} (ok : c.Ev0) {e : Expr} {msg : Str} {np cpos pos : Pos} (hx : GL c "ValueError" none) (he : EVs c σ [e] [.str msg]) : RX c σ (.Return (some (.Call (.Name "ValueError" np) [e] [] cpos)) pos :: rest) msg := by
  intro k N g m s EE w
  refine wpAny_execs_cons (wpAny_Return_some (wpAny_Call_ofName ?_))
  refine W.builtin0 ok w hx (v := .type "ValueError") (by decide +kernel) (by decide) ?_
  refine callWith_excType he.noStar (he.args k N g m s _ w fun vs h₁ g₁ t₁ k₁ w₁ l₁ r₁ => ?_)
  cases r₁ with
  | cons r₁ r₂ =>
    cases r₂; cases r₁ with
    | str _ t => exact wpAny_call_exc PySem.F.excCall_ValueError (fun h' e' hm => ⟨e', h₁, h', t₁, t, rfl, rfl, w₁.kin, Heap.MadeExc.of hm⟩) (by decide : 1 ≤ sizeLine)
theorem RX.ite {c : Cfg} {σ : Sig} {rest : List Stmt} {t : Expr} {b : Bool} {body orelse : List Stmt} {p : Pos} {msg : Str} (ht : EVB c σ t b) (h1 : b = true → RX c σ body msg) (h2 : b = false → RX c σ orelse msg) : RX c σ (.If t body orelse p :: rest) msg := by
  intro k N g m s EE w
  refine wpAny_execs_cons (wpAny_If (ht k N g m s _ _ w fun h₁ g₁ t₁ k₁ w₁ l₁ => ?_))
  cases b with
  | true => rw [if_pos rfl]; exact wpAny_mono (h1 rfl k N g₁ m _ EE w₁) (fun fl s' ⟨e, h, h', tk, tk', a, b, c, d⟩ => by subst a; exact ⟨e, h, h', tk, tk', rfl, b, c, d⟩) fun _ _ e => e
  | false => rw [if_neg Bool.false_ne_true]; exact wpAny_mono (h2 rfl k N g₁ m _ EE w₁) (fun fl s' ⟨e, h, h', tk, tk', a, b, c, d⟩ => by subst a; exact ⟨e, h, h', tk, tk', rfl, b, c, d⟩) fun _ _ e => e
theorem FNE.of_body {prog : Program} {w : World} {h₁ : Heap} {mg mb : Str → Option Value} {f : Addr} {n : Nat} {args : List D} {msg : Str} {o : Obj} {fd : FuncData} {body : List Stmt} {params names : List Str}
    (hst : Stat h₁ mg mb) (ho : h₁.get? f = some o) (hdata : o.data = .func fd) (hcd : h₁.CodeRec fd.code fd.qualname) (hbody : fd.body = .stmts body)
    (hgl : fd.globals = mainGlobals) (hcl : fd.closure = []) (hbl : fd.builtins = builtinsNs)
    (hlen : params.length = args.length)
    (hbind : ∀ (s : Shared) (vs : List Value), vs.length = params.length → BindsTo s fd ⟨vs, []⟩ (params.zip vs))
    (hcell : ∀ x ∈ fd.scope.names, x.2 ≠ .cell) (hloc : ∀ x ∈ params ++ names, fd.scope.names.lookup x = some .local ∧ (x == ("__debug__" : Str)) = false) (hnod : (params ++ names).Nodup)
    (hco : fd.scope.isCoroutine = false) (hgen : fd.scope.isGenerator = false) (hk : fd.scope.kind = .function)
    (hsx : ∀ (H : Heap) (c : Cfg), KeepU h₁ H → c.Ev0 → c.Is prog w H mg → c.env.scope = fd.scope → RX c (startSig names params args) body msg) :
    FNE prog w h₁ f (n + 1) args msg := by
  intro A s g vs Q E hd hu hk₁ hg hr q
  obtain ⟨sl₀, ho₀⟩ := hk₁ _ _ ho
  have hst₀ := hk₁.stat hst
  refine wpAny_call (codeAny_call_def (fd := fd) (body := body) (binds := params.zip vs) (by omega) ho₀ hdata hst₀.nolimit (hk₁.codeRec hcd) hbody (hbind s vs (by rw [hlen, hr.length])) hcell (fun x hx => (hloc _ (List.mem_append_left _ (List.of_mem_zip hx).1)).1) (fun h₀ hns hk₂ => ?_) hco hgen hk)
  generalize henv : callEnv fd s.heap.objs.size f = env
  have e1 : env.scope = fd.scope := by rw [← henv]; rfl
  have e2 : env.locals = s.heap.objs.size := by rw [← henv]; rfl
  have e3 : env.globals = mainGlobals := by rw [← henv]; exact hgl
  have e4 : env.builtins = builtinsNs := by rw [← henv]; exact hbl
  have e5 : env.cells = [] := by rw [← henv]; exact hcl
  have hL0 : s.heap.get? s.heap.objs.size = none := Heap.get?_none_of_le (Nat.le_refl _)
  have hLl : h₀.get? s.heap.objs.size ≠ none := by obtain ⟨o, _, _, e, _⟩ := hns; rw [e]; exact fun e => nomatch e
  have hkeys := startSig_keys (names := names) hlen
  have hw : W { prog := prog, w := w, A := A.deeper env, h₁ := s.heap, mg := mg, mb := mb, env := env, fp := [s.heap.objs.size] } (fun b => s.heap.get? b) (fun b => s.heap.get? b ≠ none ∧ g b = none) g (fun x => (params.zip vs).reverse.lookup x) (startSig names params args) h₀ := by
    refine { base := fun b o e => e, kin := fun b o e => hk₂ _ _ e, gin := fun b o e => hk₂ _ _ (hg _ _ e), fpk := fun p hp => ?_, fpl := fun p hp => ?_, nN := fun b hb => ⟨hb.1, hb.2⟩, fr := ⟨⟨_, e2 ▸ hns, fun _ _ => rfl⟩, fun x p _ h => ?_⟩, cel := fun x p h => ?_, Lfp := by show env.locals ∈ _; rw [e2]; exact .head _, nod := by rw [hkeys]; exact hnod, lcl := ?_, loc := startSig_holds hr fun x u hm => zip_lookup (List.nodup_append.mp hnod).1 (by rw [hlen, ← hr.length]) hm, sep := fun x u y v a hx _ hf => ?_ }
    · rw [List.mem_singleton.mp hp]; exact ⟨hL0, hg.none_size⟩
    · rw [List.mem_singleton.mp hp]; exact hLl
    · dsimp only at h; rw [e5] at h; cases h
    · dsimp only at h; rw [e5] at h; cases h
    · rw [hkeys]; intro x hx; refine ⟨.inl ?_, (hloc x hx).2⟩; dsimp only; unfold Env.kindOf; rw [e1]; exact (hloc x hx).1
    · rw [startSig_free hx] at hf; cases hf
  refine wpAny_mono (hsx s.heap { prog := prog, w := w, A := A.deeper env, h₁ := s.heap, mg := mg, mb := mb, env := env, fp := [s.heap.objs.size] } hk₁ ⟨hst₀, by dsimp only; rw [e1]; exact hk, e3, e4⟩ ⟨rfl, rfl, rfl, rfl⟩ e1 (fun b => s.heap.get? b) (fun b => s.heap.get? b ≠ none ∧ g b = none) g _ { s with heap := h₀, toks := s.toks + (params.zip vs).length } (fun _ _ => False) hw) (fun fl s' hf => ?_) fun _ _ e => e.elim
  obtain ⟨e, h, h', tk, tk', rfl, rfl, hk', hm⟩ := hf
  exact q e h h' tk tk' hk' hm
end Mine
namespace Mine
section
variable {c : Cfg} {σ σ' : Sig} {Φ : AFlow → Sig → Prop} {rest : List Stmt}
/-- raise f(..) of a def that gives a new ValueError -/
theorem SX.raiseF {prog : Program} {w : World} {h₁ : Heap} {mg : Str → Option Value} (ok : c.Ok) {l : List Env} (r : CfgR c l) (is : c.Is prog w h₁ mg) {x y : Str} {a : ItA} {ts : List Str} {e : Expr} {es : List Expr} {as : List D} {msg : Str} {f : Addr} {n : Nat} {np cpos pos : Pos} (hx : GL c x (some (.ref f))) (hf : IsFn h₁ f) (hl : Loc σ y (.it a (ts.map .str))) (he : EVs c σ (e :: es) as) (hF : FNE prog w h₁ f n as msg)
    (h1 : a.1 ∉ fra l) (hdp : c.A.depth + n < recursionLimit) (hun : c.A.units + 8 * n + 64 < cLine) : SX c (Fly c.h₁ a (ts.map .str) l msg) σ (.Raise (some (.Call (.Name x np) (e :: es) [] cpos)) none pos :: rest) Φ := by
  obtain ⟨rfl, rfl, rfl, rfl⟩ := is
  refine SX.step fun k N g m s w => wpAny_Raise_made PySem.F.excRaise_ValueError ok.hh ?_
  refine wpAny_Call_NameR (W.global ok.toEv w hx ?_)
  obtain ⟨o, fd, ho, hfd⟩ := hf
  refine Calls.callWith_function (o := o) (fd := fd) (he.args k N g m s _ w fun vs h₂ g₂ t₂ k₂ w₂ l₂ r₂ => ⟨⟨w₂.keep₁ _ _ ho, hfd⟩, ?_⟩)
  refine hF c.A _ g₂ vs _ _ hdp hun (KeepU.of w₂.keep₁) w₂.gin r₂ fun e' h h' tk tk' hk hm => ?_
  obtain ⟨t, ht, _, _⟩ := hm.there
  refine ⟨e', t, rfl, ht, ?_⟩
  have w₃ := w₂.keep hk
  obtain ⟨fo, hn⟩ := r.at ok w₃
  obtain ⟨hm', hat, hka, hga, hfa⟩ := w₃.loc y _ hl.mem
  have hm2 : fra (c.env :: l) = c.env.locals :: fra l := by unfold fra; rw [List.filterMap_cons, r.frame]
  unfold Eof
  exact Fly.made r.frames r.frame hn (fun b p hb _ => w₃.kin _ _ (w₃.base _ _ hb)) fo.fun_ hm (hat.mono w₃.gin) (by rw [hm2]; exact fun q => (List.mem_cons.mp q).elim (fun q => hfa (q ▸ ok.Lfp)) h1) fo.nolist fun h'' hf => ⟨h'', _, rfl, hf⟩
end
end Mine
namespace Mine
section
open Builtin
set_option maxHeartbeats 8000000 in
theorem fmt_tok {x : Str} {t u : PySem.Tok} (hx : x.length ≤ 1000000) :
    Meets («str.__mod__» ⟨[.str ⟨#[117, 110, 101, 120, 112, 101, 99, 116, 101, 100, 32, 116, 111, 107, 101, 110, 32, 105, 110, 32, 112, 108, 117, 114, 97, 108, 32, 102, 111, 114, 109, 58, 32, 37, 115]⟩ t, .str x u], []⟩) (fun _ R s => ∀ t' k, R (.ok (.ret (.str (Str.ofString "unexpected token in plural form: " ++ x) t'))) { s with toks := k }) := by
  kpc_run_s
end
/-- '..%s' % text -/
theorem OP2.fmt_tok {c : Cfg} {x : Str} (hx : x.length ≤ 1000000) : OP2 c (binaryOp .Mod) (.str (Str.ofString "unexpected token in plural form: %s")) (.str x) (.str (Str.ofString "unexpected token in plural form: " ++ x)) := .of fun s g v₁ v₂ Q E hg r1 r2 q => by
  cases r1; cases r2
  rw [show Str.ofString "unexpected token in plural form: %s" = ⟨#[117, 110, 101, 120, 112, 101, 99, 116, 101, 100, 32, 116, 111, 107, 101, 110, 32, 105, 110, 32, 112, 108, 117, 114, 97, 108, 32, 102, 111, 114, 109, 58, 32, 37, 115]⟩ by decide +kernel]
  exact binaryOp_meets (T := "str") (op := .Mod) (typeIs_str s _ _) (typeIs_str s x _) PySem.F.fills_str_mod PySem.F.slot_str_mod PySem.F.entry_str_mod (PySem.F.args_str_mod_2 _ _) (Mine.fmt_tok hx) (fun t' k => ⟨(fun e => nomatch e), q _ k (.str _ t')⟩)
end Mine
namespace Mine
local macro_rules | `(tactic| walk_at "loc") => `(tactic| first | with_reducible exact Loc.head | (with_reducible apply Loc.tail; walk_at "loc"))
theorem error_fn {w : World} {h₁ : Heap} {mg mb : Str → Option Value} (KX : (hd.heap_39 w.params).In h₁) (st : Stat h₁ mg mb) (t : Str) (hl : t.length ≤ 1000) : FNE prg w h₁ 21 1 [.str t] (errMsg t) := by
  refine FNE.of_body (params := [tk "value"]) (names := []) st (KX 21 _ rfl) rfl (codeRec_of KX rfl) rfl rfl rfl rfl rfl (bind_one fun _ => rfl) (by decide) (by decide) (by decide) rfl rfl rfl ?_
  intro H c hK ev is hs
  have g_ve : GL c "ValueError" none := GL.of is hs rfl rfl ((glob_at KX st.g rfl rfl _).trans rfl)
  show RX c [(tk "value", .val (.str t))] _ _
  refine RX.ite (b := t.length != 0) (EVB.plain (EV.name0 ev (by walk_at "loc")) (TR.str (by omega)) rfl) (fun hb => ?_) (fun hb => ?_)
  · have e : errMsg t = Str.ofString "unexpected token in plural form: " ++ t := by unfold errMsg; rw [if_neg (by simpa using hb)]
    rw [e]
    exact RX.ret ev g_ve (EVs.cB (EV.binop EV.const_str (EV.name0 ev (by walk_at "loc")) (OP2.fmt_tok (by omega))) .nil)
  · have e : errMsg t = Str.ofString "unexpected end of plural form" := by unfold errMsg; rw [if_pos (by simpa using hb)]
    rw [e]
    exact RX.ret ev g_ve (EVs.cC EV.const_str .nil)
end Mine
namespace Mine
theorem wpG.callType {b : Bool} {M : Model} {A : Around} {E : Value → Shared → Prop} {s : Shared} {pos : Pos} {T : String} {args : List (Bool × Sem Value)} {Q : Value → Shared → Prop} (hplain : args.any (·.1) = false)
    (h : wpAny M A (evalArgs (.type T) true args []) (fun x s₁ => wpG b M A (PySem.call (.type T) x.pos x.kw) Q E s₁) E s) : wpG b M A (callWith pos (.type T) [] args []) Q E s := by
  unfold callWith
  refine .seq (wpAny_holding (wpAny_mono h (fun x s₁ h₁ => .stand ?_) fun _ _ e => e))
  simp only [hplain, List.any_nil, Bool.or_false]
  refine .seq (wpAny_pure ?_)
  exact .bind (h₁.mono (fun r s₂ hr => .seq (wpAny_holding (wpAny_point (.pure hr)))) fun _ _ e => e)
/-- all but e as it was, the frames S up to their slots -/
noncomputable def SlotK (S : List Addr) (e : Addr) (h h' : Heap) : Prop := (∀ b o, b ∉ S → b ≠ e → h.get? b = some o → h'.get? b = some o) ∧ (∀ b o, b ≠ e → h.get? b = some o → ∃ sl, h'.get? b = some { o with slots := sl })
/-- the place is noted with an error that has none -/
theorem noteFirst {M : Model} {A : Around} {E : Value → Shared → Prop} {s : Shared} {env : Env} {l : List Env} {L e : Addr} {oe : Obj} {vs : Array Value} {Q : Unit → Shared → Prop} (hfr : A.frames = some (env :: l)) (hl : s.heap.FunFrames {} (env :: l)) (hf : env.frame = some L) (he : s.heap.get? e = some oe) (hd : oe.data = .fields vs) (h1 : vs[1]? = some .none)
    (hQ : ∀ h' T oT ts, SlotK (fra (env :: l)) e s.heap h' → h'.get? e = some (oe.mapFields (·.setIfInBounds 1 (.ref T))) → s.heap.get? T = none → T ≠ e → h'.get? T = some oT → oT.data = .fields ts → ts[3]? = some (rawInt L) → Q () { s with heap := h' }) : wpAny M A (noteFrame (.ref e) env) Q E s := by
  have hsz : 1 < vs.size := (Array.getElem?_eq_some_iff.mp h1).1
  have hene : e ∉ fra (env :: l) := fun hm => by
    obtain ⟨_, o, ho, hnf⟩ := hl.mem hm
    rw [he] at ho; injection ho with ho; subst ho; exact hnf vs hd
  unfold noteFrame
  simp only [hf]
  refine wpAny_bind (wpAny_field he hd h1 ?_)
  rw [if_neg (by decide)]
  refine wpAny_bind (wpAny_frameOf_fun hfr hl hf fun h₁ hs₁ => ?_)
  refine wpAny_bind (wpAny_entryPlaceOf fun pl hpl => ?_)
  unfold EntryCells.newEntry newFields
  refine wpAny_bind (wpAny_newObj_type ?_ (hpl.sizeOk5 _ _ _ _ _))
  have he₁ : h₁.get? e = some oe := (hs₁.2.1 e hene).trans he
  have he₂ := Heap.get?_push_of_some (h := h₁) { cls := .type "traceback", dict := none, data := .fields ([Value.none, .ref L, .none, rawInt L, .none] ++ (if pl.isEmpty then List.replicate 6 Value.none else pl)).toArray } he₁
  have hTe : h₁.objs.size ≠ e := Nat.ne_of_gt (Heap.lt_size he₁)
  refine wpAny_setField he₂ hd hsz (hQ _ h₁.objs.size _ _ ⟨fun b o hb hbe hbo => ?_, fun b o hbe hbo => ?_⟩ (Heap.get?_update_self _ he₂ (Obj.isFreed_of_fields (Obj.data_mapFields hd _))) ?_ hTe ((Heap.get?_update_other _ _ (Ne.symm hTe)).trans (Heap.get?_push_size h₁ rfl)) rfl (by first | (simp; done) | (rcases hpl with rfl | ⟨_, _, _, _, _, _, _, rfl⟩ <;> simp)))
  · rw [Heap.get?_update_other _ _ (Ne.symm hbe)]
    exact Heap.get?_push_of_some _ ((hs₁.2.1 b hb).trans hbo)
  · obtain ⟨sl, hsl⟩ := hs₁.2.2 b o hbo
    exact ⟨sl, by rw [Heap.get?_update_other _ _ (Ne.symm hbe)]; exact Heap.get?_push_of_some _ hsl⟩
  · exact Heap.get?_none_of_le (h := s.heap) (by rw [hs₁.1]; exact Nat.le_refl _)
theorem FrameAt.load {M : Model} {A : Around} {E Q : Value → Shared → Prop} {s : Shared} {env : Env} {m : Str → Option Value} {x : Str} {u : Value} (hk : env.scope.kind = .function) (fr : FrameAt env m s.heap) (hx : env.kindOf x = some .local ∨ (env.kindOf x = some .cell ∧ ∃ p, env.cells.lookup x = some p)) (hm : m x = some u) (h : Q u s) : wpAny M A (loadName env x) Q E s := by
  rcases hx with hx | ⟨hx, p, hp⟩
  · obtain ⟨m₀, h1, h2⟩ := fr.ns
    exact wpAny_loadName_local hk hx h1 ((h2 x hx).trans hm) h
  · have h1 := fr.cl x p hx hp
    rw [hm] at h1
    exact wpAny_loadName_cell hk hx hp h1 h
theorem FrameAt.keepU {env : Env} {m : Str → Option Value} {h h' : Heap} (x : FrameAt env m h) (k : KeepU h h') : FrameAt env m h' :=
  ⟨let ⟨m₀, a, b⟩ := x.ns; ⟨m₀, k.ns a, b⟩, fun y p h1 h2 => by
    obtain ⟨o, e, r⟩ := x.cl y p h1 h2
    obtain ⟨sl, e'⟩ := k _ _ e
    exact ⟨_, e', r⟩⟩
section
variable {c : Cfg} {σ σ' : Sig} {Φ : AFlow → Sig → Prop} {rest : List Stmt}
set_option maxHeartbeats 4000000 in
/-- try: v = int(x, 10) except ValueError: raise f(x) from None, x no number -/
theorem SX.try_raise {prog : Program} {w : World} {h₁ : Heap} {mg : Str → Option Value} (ok : c.Ok) {l : List Env} (r : CfgR c l) (is : c.Is prog w h₁ mg) {v x y f : Str} {a : ItA} {ts : List Str} {t msg : Str} {fa : Addr} {n kk kk' : Nat} {p p' p1 p2 p3 ip cp ep fp p4 cp2 rp hp tp : Pos}
    (hint : GL c "int" none) (hve : GL c "ValueError" none) (hx : GL c f (some (.ref fa))) (hf : IsFn h₁ fa) (hl : Loc σ y (.it a (ts.map .str))) (ht : Loc σ x (.val (.str t))) (hF : FNE prog w h₁ fa n [.str t] msg)
    (hn : PySem.intText? t = none) (hlen : t.length ≤ 640) (hr : (reprText t).length ≤ sizeLine) (h1 : a.1 ∉ fra l) (hdp : c.A.depth + n < recursionLimit) (hun : c.A.units + 8 * n + 64 < cLine)
    (hsw : swapsWith (.Call (.Name "int" ip) [.Name x p1, .Constant (.int 10) kk p2] [] cp) (some (.Name v p')) p.line c.env = pure false) :
    SX c (Fly c.h₁ a (ts.map .str) l msg) σ (.Try [.Assign [.Name v p'] (.Call (.Name "int" ip) [.Name x p1, .Constant (.int 10) kk p2] [] cp) p] [.ExceptHandler (some (.Name "ValueError" ep)) none [.Raise (some (.Call (.Name f fp) [.Name x p3] [] cp2)) (some (.Constant .none kk' p4)) rp] hp] [] [] tp :: rest) Φ := by
  obtain ⟨rfl, rfl, rfl, rfl⟩ := is
  have ev := ok.toEv
  refine SX.stepG fun k N g m s w => r.cal ▸ wpG.try (.cons (.assign (.callName (W.builtin ev w hint (v := .type "int") (by decide +kernel) (by decide) ?_)) hsw))
  have he : EVs c σ [.Name x p1, .Constant (.int 10) kk p2] [.str t, .int 10] := .cons (EV.name ev ht) (fun _ => rfl) (.cons EV.const_int (fun _ => rfl) .nil)
  refine .callType he.noStar (he.args k N g m s _ w fun vs hA g₁ t₁ k₁ w₁ l₁ r₁ => ?_)
  cases r₁ with
  | cons r₁ r₂ => cases r₂ with
  | cons r₂ r₃ =>
  cases r₃; cases r₁; cases r₂
  refine int_bad ev.hh hlen hn hr fun v0 hB e tkB hm => ?_
  obtain ⟨t0, he0, ht0n, ht0⟩ := hm.there
  obtain ⟨fo, hnL⟩ := r.at ok w₁
  have hm2 : fra (c.env :: l) = c.env.locals :: fra l := fra_cons r.frame
  have foB : hB.FunFrames {} (c.env :: l) := fo.fun_.of_keeps fun b o q _ => ⟨o, hm.keeps b o q, rfl⟩
  refine noteFirst r.frames foB r.frame he0 rfl rfl fun hC T oT tsT hsk hCe hTn hTe hCT hdT h3T => ?_
  have hTA : hA.get? T = none := by
    cases q : hA.get? T with
    | none => rfl
    | some o => rw [hm.keeps _ _ q] at hTn; cases hTn
  have hSz : 3 < tsT.size := (Array.getElem?_eq_some_iff.mp h3T).1
  have hCe' : hC.get? e = some { cls := .type "ValueError", data := .fields #[.ref t0, .ref T, .none, .none, .bool false, .none] } := hCe
  refine wpAny_setFlight_none hCe' rfl (tb := T) rfl hCT hdT hSz ?_
  generalize hhD : hC.update T (Obj.mapFields (·.setIfInBounds 3 .none)) = hD
  have sD : Heap.SameBut T hC hD := hhD ▸ Heap.SameBut.update ..
  have hDT : hD.get? T = some (oT.mapFields (·.setIfInBounds 3 .none)) := by rw [← hhD]; exact Heap.get?_update_self _ hCT (Obj.isFreed_of_fields (Obj.data_mapFields hdT _))
  have hDe := (sD.2 e (Ne.symm hTe)).trans hCe'
  -- what is of hA, stays
  have keepD : (∀ b o, b ∉ fra (c.env :: l) → hA.get? b = some o → hD.get? b = some o) ∧ KeepU hA hD := by
    have nE : ∀ b o, hA.get? b = some o → b ≠ e := fun b o q q2 => by rw [q2, hm.new] at q; cases q
    have nT : ∀ b o, hA.get? b = some o → b ≠ T := fun b o q q2 => by rw [q2, hTA] at q; cases q
    refine ⟨fun b o hb q => (sD.2 b (nT b o q)).trans (hsk.1 b o hb (nE b o q) (hm.keeps _ _ q)), fun b o q => ?_⟩
    obtain ⟨sl, h2⟩ := hsk.2 b o (nE b o q) (hm.keeps _ _ q)
    exact ⟨sl, (sD.2 b (nT b o q)).trans h2⟩
  have kU : KeepU c.h₁ hD := (KeepU.of w₁.keep₁).trans keepD.2
  refine wpAny_handleBy_builtin (X := "ValueError") (T := "ValueError") (b := true) PySem.F.isExc_ValueError PySem.F.notTuple_ValueError (by rw [isSubtype_type]; kernel_rfl) ?_
  refine PySem.Calls.Name_function_global ev.hk hve.1 (PySem.Calls.loadGlobal_builtin (by rw [ev.hg]; exact kU.ns ev.st.g) hve.2.2 (by rw [ev.hb]; exact kU.ns ev.st.b) ((ev.st.bi _ (by decide)).trans (show bootBuiltins "ValueError" = some (.type "ValueError") by decide +kernel)) ⟨rfl, ⟨_, hDe, rfl⟩, ?_⟩) hve.2.1
  rw [if_pos rfl]
  refine wpAny_setFlight_none hDe rfl (tb := T) rfl hDT (Obj.data_mapFields hdT _) (by simpa using hSz) ?_
  generalize hhE : hD.update T (Obj.mapFields (·.setIfInBounds 3 .none)) = hE
  have sE : Heap.SameBut T hD hE := hhE ▸ Heap.SameBut.update ..
  have hEe := (sE.2 e (Ne.symm hTe)).trans hDe
  have keepE : (∀ b o, b ∉ fra (c.env :: l) → hA.get? b = some o → hE.get? b = some o) ∧ KeepU hA hE := by
    have nT : ∀ b o, hA.get? b = some o → b ≠ T := fun b o q q2 => by rw [q2, hTA] at q; cases q
    refine ⟨fun b o hb q => (sE.2 b (nT b o q)).trans (keepD.1 b o hb q), fun b o q => ?_⟩
    obtain ⟨sl, h2⟩ := keepD.2 b o q
    exact ⟨sl, (sE.2 b (nT b o q)).trans h2⟩
  have kE : KeepU c.h₁ hE := (KeepU.of w₁.keep₁).trans keepE.2
  refine wpAny_passesOwnAt PassesOwnAt.leaving (wpAny_execs_cons (raise_from (e0 := e) rfl ?_))
  obtain ⟨of, fd, hof, hfd⟩ := hf
  obtain ⟨slf, hofE⟩ := kE _ _ hof
  refine wpAny_Call_NameR (PySem.Calls.Name_function_global ev.hk hx.1 (PySem.Calls.loadGlobal_global (by rw [ev.hg]; exact kE.ns ev.st.g) hx.2.2 ?_) hx.2.1)
  refine PySem.Calls.callWith_function (o := { of with slots := slf }) (fd := fd) ?_
  obtain ⟨u, hmu, hru⟩ := w₁.name ht
  cases hru with
  | str _ tu =>
  rw [show backTo cp2 (starEach [.Name x p3] c.env) = [(false, eval (.Name x p3) c.env)] from rfl]
  refine PySem.Calls.evalArgs_plain (PySem.Calls.spliced_cons (wpAny_Name (FrameAt.load ev.hk (w₁.fr.keepU keepE.2) (w₁.kind ht) hmu (PySem.Calls.spliced_nil ⟨⟨hofE, hfd⟩, ?_⟩)) (w₁.nodebug ht)))
  refine hF _ _ (fun _ => none) [.str t tu] _ _ hdp hun kE (fun b o q => by cases q) (.cons (.str _ _) .nil) fun e1 hF1 hG tk tk' kF hmG => ?_
  obtain ⟨t1, he1, ht1n, ht1⟩ := hmG.there
  have hF1e : hF1.get? e = some { cls := .type "ValueError", data := .fields #[.ref t0, .ref T, .none, .none, .bool false, .none] } := kF _ _ hEe
  have hne : e1 ≠ e := fun q => by have := hmG.new; rw [q, hF1e] at this; cases this
  refine ⟨e1, t1, rfl, he1, hne, ⟨_, _, hmG.keeps _ _ hF1e, rfl, rfl⟩, fun hH sH heH => ?_⟩
  have keepF : KeepU hA hF1 := keepE.2.trans (KeepU.of kF)
  have none1 : ∀ b, hF1.get? b = none → hA.get? b = none := fun b q => by
    cases q2 : hA.get? b with
    | none => rfl
    | some o => obtain ⟨sl, q3⟩ := keepF b o q2; rw [q] at q3; cases q3
  have nn : ∀ b, hA.get? b = none → (hideAll hA (fra (c.env :: l))).get? b = none := fun b q => by
    cases q2 : (hideAll hA (fra (c.env :: l))).get? b with
    | none => rfl
    | some o => rw [of_hideAll _ q2] at q; cases q
  have keepH : (∀ b o, b ∉ fra (c.env :: l) → hA.get? b = some o → hH.get? b = some o) ∧ KeepU hA hH := by
    have n1 : ∀ b o, hA.get? b = some o → b ≠ e1 := fun b o q q2 => by rw [q2, none1 _ hmG.new] at q; cases q
    refine ⟨fun b o hb q => (sH.2 b (n1 b o q)).trans (hmG.keeps _ _ (kF _ _ (keepE.1 b o hb q))), fun b o q => ?_⟩
    obtain ⟨sl, h2⟩ := keepE.2 b o q
    exact ⟨sl, (sH.2 b (n1 b o q)).trans (hmG.keeps _ _ (kF _ _ h2))⟩
  have ht1e : t1 ≠ e1 := fun q => by rw [q, he1] at ht1; exact absurd (congrArg Obj.data (Option.some.inj ht1)) (fun q => nomatch q)
  obtain ⟨hm', hat, hka, hga, hfa⟩ := w₁.loc y _ hl.mem
  have h1' : a.1 ∉ fra (c.env :: l) := by rw [hm2]; exact fun q => (List.mem_cons.mp q).elim (fun q => hfa (q ▸ ok.Lfp)) h1
  show Eof c _ s _ _
  unfold Eof
  refine Fly.first (B := hideAll hA (fra (c.env :: l))) r.frames r.frame hnL (fun b q hb hnl ha => hideAll_get _ (w₁.kin _ _ (w₁.base _ _ hb)) hnl) (fun b o hb _ _ _ => keepH.2 b o (w₁.kin _ _ (w₁.base _ _ hb)))
    (fun b o q => keepH.1 b o (fun hb => by rw [hideAll_none _ hb] at q; cases q) (of_hideAll _ q)) ((funFrames_hide fo.fun_ fra_mem).of_keeps fun b o q _ => by obtain ⟨sl, e⟩ := keepH.2 b o q; exact ⟨_, e, rfl⟩) heH rfl rfl rfl rfl (nn _ (none1 _ hmG.new))
    ⟨_, _, (sH.2 t1 ht1e).trans ht1, rfl, rfl⟩ (nn _ (none1 _ ht1n)) ((hat.mono w₁.gin).hidden h1' fo.nolist) fun h'' hfl => ⟨h'', _, rfl, hfl⟩
end
end Mine
namespace Mine
local macro_rules | `(tactic| walk_at "loc") => `(tactic| first | with_reducible exact Loc.head | (with_reducible refine Loc.tail ?_; walk_at "loc"))
local macro_rules | `(tactic| walk_at "upd") => `(tactic| first | with_reducible exact Upd.head | (with_reducible apply Upd.tail; walk_at "upd"))
local macro_rules | `(tactic| walk_at "locd") => `(tactic| first | exact Loc.head | (with_reducible apply Loc.tail; walk_at "locd"))
theorem PFX.mono {prog : Program} {w : World} {h₁ : Heap} {f : Addr} {n n' : Nat} {ds args ds' : List D} {msg : Str} (h : PFX prog w h₁ f n ds args msg ds') (hn : n ≤ n') : PFX prog w h₁ f n' ds args msg ds' :=
  fun A s g a ws l Q E h1 h2 h3 => h A s g a ws l Q E h1 (by omega) (by omega)
/-- tokens whose repr is short -/
noncomputable def Repr1 (t : Str) : Prop := (reprText t).length ≤ sizeLine
/-- how a call of _parse ends -/
noncomputable def ParseIs (w : World) (f : Nat) : Prop :=
  ∀ (h₁ : Heap) (mg mb : Str → Option Value), (hd.heap_39 w.params).In h₁ → Stat h₁ mg mb → ∀ (p : Int) (toks : List Str), Smalls toks → (∀ t ∈ toks, Repr1 t) → toks.length ≤ 1000 →
    (∀ text nx rest, run f (.start p) toks = .ok text nx rest → PF prg w h₁ 85 (f + 1) (toks.map .str) [.int p] (.tup [.str text, .str nx]) (rest.map .str) ∧ (p = -1 → PF prg w h₁ 85 (f + 1) (toks.map .str) [] (.tup [.str text, .str nx]) (rest.map .str))) ∧
    ∀ msg rest, run f (.start p) toks = .bad msg rest → PFX prg w h₁ 85 (f + 1) (toks.map .str) [.int p] msg (rest.map .str) ∧ (p = -1 → PFX prg w h₁ 85 (f + 1) (toks.map .str) [] msg (rest.map .str))
/-- what the body of _parse must end in -/
noncomputable def Ends01 (c : Cfg) (a : ItA) (l : List Env) (E : ERes) (Φ : AFlow → Sig → Prop) : PRes → Prop
  | .ok text nx rest => ∀ σ, Loc σ (tk "tokens") (.it a (rest.map .str)) → Φ (.ret (.tup [.str text, .str nx])) σ
  | .bad msg rest => CfgR c l ∧ a.1 ∉ fra l ∧ E = Fly c.h₁ a (rest.map .str) l msg
  | .out => False
noncomputable def bodyOf (K : Frag) (a : Addr) : List Stmt := match (fdOf K a).body with
  | .stmts b => b
  | _ => []
theorem run_sub : ∀ (f : Nat) (m : Mode) (toks : List Str) (text nx : Str) (rest : List Str), run f m toks = .ok text nx rest → ∀ t ∈ rest, t ∈ toks
  | 0, _, _, _, _, _, h => by simp [run] at h
  | f + 1, .start p, toks, text, nx, rest, h => by
    have hm := skipNots_mem toks
    unfold run at h
    rcases hk : skipNots toks with ⟨k, r₀⟩
    rw [hk] at h hm
    cases r₀ with
    | nil => simp at h
    | cons t r =>
      dsimp only at h hm
      have hr : ∀ x ∈ r, x ∈ toks := fun x hx => hm x (.tail _ hx)
      by_cases h1 : t = tk "("
      · rw [if_pos h1] at h
        cases hrun : run f (.start (-1)) r with
        | bad m r' => rw [hrun] at h; simp at h
        | out => rw [hrun] at h; simp at h
        | ok sub nx' r' =>
          rw [hrun] at h
          dsimp only at h
          by_cases h2 : nx' = tk ")"
          · rw [if_pos h2] at h
            cases r' with
            | nil => simp at h
            | cons nx'' r'' =>
              dsimp only at h
              exact fun x hx => hr x (run_sub f _ _ _ _ _ hrun x (.tail _ (run_sub f _ _ _ _ _ h x hx)))
          · rw [if_neg h2] at h; simp at h
      · rw [if_neg h1] at h
        by_cases h2 : t = tk "n"
        · rw [if_pos h2] at h
          cases r with
          | nil => simp at h
          | cons nx'' r'' => exact fun x hx => hr x (.tail _ (run_sub f _ _ _ _ _ h x hx))
        · rw [if_neg h2] at h
          cases hn : PySem.intText? t with
          | none => rw [hn] at h; simp at h
          | some n =>
            rw [hn] at h
            cases r with
            | nil => simp at h
            | cons nx'' r'' => exact fun x hx => hr x (.tail _ (run_sub f _ _ _ _ _ h x hx))
  | f + 1, .loop p res j nx₀, toks, text, nx, rest, h => by
    unfold run at h
    cases hl : lvl nx₀ with
    | none => rw [hl] at h; exact run_sub f _ _ _ _ _ h
    | some i =>
      rw [hl] at h
      dsimp only at h
      by_cases hi : i < p
      · rw [if_pos hi] at h; exact run_sub f _ _ _ _ _ h
      · rw [if_neg hi] at h
        cases hrun : run f (.start (i + 1)) toks with
        | bad m r' => rw [hrun] at h; simp at h
        | out => rw [hrun] at h; simp at h
        | ok right nx' r' =>
          rw [hrun] at h
          dsimp only at h
          exact fun x hx => run_sub f _ _ _ _ _ hrun x (run_sub f _ _ _ _ _ h x hx)
  | f + 1, .tail p res nx₀, toks, text, nx, rest, h => by
    unfold run at h
    by_cases hc : nx₀ = tk "?" ∧ p ≤ 0
    · rw [if_pos hc] at h
      cases hrun : run f (.start 0) toks with
      | bad m r' => rw [hrun] at h; simp at h
      | out => rw [hrun] at h; simp at h
      | ok yes nx1 r1 =>
        rw [hrun] at h
        dsimp only at h
        by_cases hn : nx1 = tk ":"
        · rw [if_pos hn] at h
          cases hrun2 : run f (.start (-1)) r1 with
          | bad m r' => rw [hrun2] at h; simp at h
          | out => rw [hrun2] at h; simp at h
          | ok no nx2 r2 =>
            rw [hrun2] at h
            dsimp only at h
            injection h with e1 e2 e3
            subst e3
            exact fun x hx => run_sub f _ _ _ _ _ hrun x (run_sub f _ _ _ _ _ hrun2 x hx)
        · rw [if_neg hn] at h; simp at h
    · rw [if_neg hc] at h
      injection h with e1 e2 e3
      subst e3
      exact fun x hx => hx
set_option maxHeartbeats 8000000 in
theorem all_body {w : World} {H : Heap} {mg mb : Str → Option Value} (KX : (hd.heap_39 w.params).In H) (st : Stat H mg mb) (F : Nat) (ih : ∀ f, f ≤ F → ParseIs w f)
    (p : Int) (toks : List Str) (R : PRes) (hs : Smalls toks) (hrp : ∀ t ∈ toks, Repr1 t) (hn : toks.length ≤ 1000) (hrun : run (F + 1) (.start p) toks = R)
    (c : Cfg) (a : ItA) (l : List Env) (ok : c.Ok) (is : c.Is prg w H mg) (hsc : c.env.scope = (fdOf (hd.heap_39 w.params) 85).scope) (hdp : c.A.depth + (F + 1) < recursionLimit) (hun : c.A.units + 8 * (F + 1) + 64 < cLine)
    {E : ERes} {Φ : AFlow → Sig → Prop} (hE : Ends01 c a l E Φ R) :
    SX c E (sigP a toks p .un .un .un .un .un .un .un .un .un .un) (bodyOf (hd.heap_39 w.params) 85) Φ := by
  have ev := ok.toEv
  have L1 : (Str.ofString "(").length = 1 := by decide +kernel
  have L2 : (Str.ofString ")").length = 1 := by decide +kernel
  have L3 : (Str.ofString " ").length = 1 := by decide +kernel
  have L4 : (Str.ofString " if ").length = 4 := by decide +kernel
  have L5 : (Str.ofString " else ").length = 6 := by decide +kernel
  have gl : ∀ {x : Str} {v : Option Value}, (fdOf (hd.heap_39 w.params) 85).scope.names.lookup x = some .globalImplicit → (x == ("__debug__" : Str)) = false → mg x = v → GL c x v := fun h1 h2 h3 => GL.of is hsc h1 h2 h3
  have g_next : GL c "next" none := gl rfl rfl ((glob_at KX st.g rfl rfl _).trans rfl)
  have g_int : GL c "int" none := gl rfl rfl ((glob_at KX st.g rfl rfl _).trans rfl)
  have g_ve : GL c "ValueError" none := gl rfl rfl ((glob_at KX st.g rfl rfl _).trans rfl)
  have g_err : GL c "_error" (some (.ref 21)) := gl rfl rfl ((glob_at KX st.g rfl rfl _).trans rfl)
  have is_err : IsFn H 21 := ⟨_, _, KX 21 _ rfl, rfl⟩
  have g_parse : GL c "_parse" (some (.ref 85)) := gl rfl rfl ((glob_at KX st.g rfl rfl _).trans rfl)
  have g_ops : GL c "_binary_ops" (some (.ref 31)) := gl rfl rfl ((glob_at KX st.g rfl rfl _).trans rfl)
  have g_c2py : GL c "_c2py_ops" (some (.ref 77)) := gl rfl rfl ((glob_at KX st.g rfl rfl _).trans rfl)
  have t_ops : StrTab c.prog c.w c.h₁ 31 (opsD.map fun p => (.str p.1, p.2)) := by rw [is.prog, is.w, is.h]; exact ops_tab KX
  have t_c2py : StrTab c.prog c.w c.h₁ 77 (pyD.map fun p => (.str p.1, p.2)) := by rw [is.prog, is.w, is.h]; exact c2py_tab KX
  refine SX.assign ok EV.const_str (by walk_at "upd") rfl ?_
  have hl := skipNots_length toks
  have hm := skipNots_mem toks
  unfold run at hrun
  rcases hk : skipNots toks with ⟨k, r₀⟩
  rw [hk] at hrun hl hm
  cases r₀ with
  | nil => simp at hrun; subst hrun; exact hE.elim
  | cons t r' =>
  dsimp only at hrun hl hm
  have ht : Small t := hs t (hm t (.head _))
  have htr : Repr1 t := hrp t (hm t (.head _))
  have ht64 := ht.1
  have hr : Smalls r' := fun x hx => hs x (hm x (.tail _ hx))
  have hrr : ∀ x ∈ r', Repr1 x := fun x hx => hrp x (hm x (.tail _ hx))
  simp only [List.length_cons] at hl
  cases htoks : toks with
  | nil => rw [htoks] at hk; simp [skipNots] at hk
  | cons t₀ r₀ =>
  refine SX.assignX ok (EX.next (d := .str _) (ds := List.map D.str _) ev g_next (by walk_at "locd") (by walk_at "upd")) (by walk_at "upd") rfl ?_
  refine SX.whileK (PassesOwn.never) (fun n σ => ∃ k' t' r₁, σ = sigP a r₁ p (.val (.str (notTxt k'))) (.val (.str t')) .un .un .un .un .un .un .un .un ∧ n = r₁.length ∧ skipNots (t' :: r₁) = (k - k', t :: r') ∧ k' ≤ k)
    (fun σ => σ = sigP a r' p (.val (.str (notTxt k))) (.val (.str t)) .un .un .un .un .un .un .un .un) r₀.length ⟨0, t₀, r₀, rfl, rfl, by rw [← htoks, hk]; rfl, Nat.zero_le _⟩ ?_ ?_
  · rintro n σ₁ ⟨k', t', r₁, rfl, rfl, hsk, hkk⟩
    refine ⟨t' == tk "!", _, (EVB.compare (EV.name ev (by walk_at "loc")) EV.const_str OP2.eq_str rfl).toEXB, fun hb => ?_, fun hb => ?_⟩
    · have ht' : t' = tk "!" := eq_of_beq hb
      unfold skipNots at hsk
      rw [if_pos ht'] at hsk
      have e1 : (skipNots r₁).1 + 1 = k - k' := congrArg Prod.fst hsk
      have e2 : (skipNots r₁).2 = t :: r' := congrArg Prod.snd hsk
      cases r₁ with
      | nil => simp [skipNots] at e2
      | cons t'' r'' =>
      refine SX.aug ok (by walk_at "loc") EV.const_str (OP2.iadd_str (by rw [notTxt_length, len_not]; omega)) (by walk_at "upd") ?_
      refine SX.assignX ok (EX.next (d := .str _) (ds := List.map D.str _) ev g_next (by walk_at "locd") (by walk_at "upd")) (by walk_at "upd") rfl ?_
      refine SX.nil ⟨r''.length, by simp, k' + 1, t'', r'', rfl, rfl, ?_, by omega⟩
      exact Prod.ext (by show (skipNots (t'' :: r'')).1 = k - (k' + 1); omega) e2
    · have ht' : t' ≠ tk "!" := fun e => by rw [e] at hb; simp at hb
      unfold skipNots at hsk
      rw [if_neg ht'] at hsk
      have e1 : 0 = k - k' := congrArg Prod.fst hsk
      have e2 : t' :: r₁ = t :: r' := congrArg Prod.snd hsk
      injection e2 with e2 e3
      subst e2 e3
      have : k' = k := by omega
      subst this
      rfl
  rintro σ₁ rfl
  have hk4 : 4 * k ≤ 4000 := by omega
  have hnt := notTxt_length k
  -- the operand
  refine SX.join (b := t == tk "(") (fun σ => ∃ res nx₀ nx' r'' vs vv, σ = sigP a (nx' :: r'') p (.val (.str res)) nx₀ vs vv .un .un .un .un .un .un ∧ run F (.loop p res 100 nx') r'' = R ∧ res.length + 2 + 80 * r''.length ≤ 90000 ∧ Smalls (nx' :: r'') ∧ (∀ x ∈ r'', Repr1 x) ∧ r''.length ≤ 1000)
    (EVB.compare (EV.name ev (by walk_at "loc")) EV.const_str OP2.eq_str rfl) (fun hb => ?_) (fun hb => ?_) ?_
  · have ht' : t = tk "(" := eq_of_beq hb
    rw [if_pos ht'] at hrun
    cases hsub : run F (.start (-1)) r' with
    | out => rw [hsub] at hrun; simp at hrun; subst hrun; exact hE.elim
    | bad m r₂ =>
      rw [hsub] at hrun
      dsimp only at hrun
      subst hrun
      obtain ⟨r, haf, rfl⟩ := hE
      exact SX.unpackR ok r (EXR.callP ok r is g_parse (parse_isFn KX) (by walk_at "loc") .nil (((ih F (Nat.le_refl _) H mg mb KX st (-1) r' hr hrr (by omega)).2 _ _ hsub).2 rfl) haf (by omega) (by omega)) rfl rfl
    | ok sub nx1 r₂ =>
    rw [hsub] at hrun
    dsimp only at hrun
    obtain ⟨hr', hnx1, hlen⟩ := run_len F _ r' sub nx1 r₂ hr hsub
    have hrr' : ∀ x ∈ r₂, Repr1 x := fun x hx => hrr x (run_sub F _ _ _ _ _ hsub x hx)
    refine SX.unpack2X ok (EX.callP ev is g_parse (parse_isFn KX) (by walk_at "loc") (by walk_at "upd") .nil (((ih F (Nat.le_refl _) H mg mb KX st (-1) r' hr hrr (by omega)).1 _ _ _ hsub).2 rfl) (by omega) (by omega)) (by walk_at "upd") (by walk_at "upd") rfl rfl ?_
    refine SX.assign ok (EV.joined (.first (EV.fmtS (EV.name ev (by walk_at "loc")) (by omega)) (by omega) (.lit (by first | omega | (simp only [Str.length_append]; omega)) (.val (EV.name ev (by walk_at "loc")) (by first | omega | (simp only [Str.length_append]; omega)) (.lit (by first | omega | (simp only [Str.length_append]; omega)) .nil))))) (by walk_at "upd") rfl ?_
    by_cases h2 : nx1 = tk ")"
    · rw [if_pos h2] at hrun
      cases r₂ with
      | nil => simp at hrun; subst hrun; exact hE.elim
      | cons nx' r'' =>
      dsimp only at hrun
      simp only [List.length_cons] at hlen
      refine SX.ite_false (by rw [show false = (nx1 != tk ")") by rw [h2]; decide +kernel]; exact EVB.compare (EV.name ev (by walk_at "loc")) EV.const_str OP2.ne_str rfl) ?_
      refine SX.nil (SX.nil ⟨_, _, nx', r'', _, _, rfl, hrun, ?_, hr', fun x hx => hrr' x (.tail _ hx), by omega⟩)
      simp only [Str.length_append, hnt, show (tk "(").length = 1 by decide +kernel, show (tk ")").length = 1 by decide +kernel]
      omega
    · rw [if_neg h2] at hrun
      subst hrun
      obtain ⟨r, haf, rfl⟩ := hE
      refine SX.ite_true (by rw [show true = (nx1 != tk ")") from (bne_iff_ne.mpr h2).symm]; exact EVB.compare (EV.name ev (by walk_at "loc")) EV.const_str OP2.ne_str rfl) ?_
      exact SX.raise ok r g_ve (by walk_at "loc") (EVs.cC EV.const_str .nil) haf
  · have ht' : t ≠ tk "(" := fun e => by rw [e] at hb; simp at hb
    rw [if_neg ht'] at hrun
    refine SX.ite (b := t == tk "n") (EVB.compare (EV.name ev (by walk_at "loc")) EV.const_str OP2.eq_str rfl) (fun hb2 => ?_) (fun hb2 => ?_)
    · have ht2 : t = tk "n" := eq_of_beq hb2
      rw [if_pos ht2] at hrun
      cases r' with
      | nil => simp at hrun; subst hrun; exact hE.elim
      | cons nx' r'' =>
      dsimp only at hrun
      refine SX.assign ok (EV.joined (.first (EV.fmtS (EV.name ev (by walk_at "loc")) (by omega)) (by omega) (.val (EV.name ev (by walk_at "loc")) (by first | omega | (simp only [Str.length_append]; omega)) .nil))) (by walk_at "upd") rfl ?_
      refine SX.nil (SX.nil ⟨_, _, nx', r'', _, _, rfl, hrun, ?_, hr, fun x hx => hrr x (.tail _ hx), ?_⟩)
      · simp only [Str.length_append, hnt]
        have := ht.1
        simp only [List.length_cons] at hl
        omega
      · simp only [List.length_cons] at hl; omega
    · have ht2 : t ≠ tk "n" := fun e => by rw [e] at hb2; simp at hb2
      rw [if_neg ht2] at hrun
      cases hint : PySem.intText? t with
      | none =>
        rw [hint] at hrun
        dsimp only at hrun
        subst hrun
        obtain ⟨r, haf, rfl⟩ := hE
        exact SX.try_raise ok r is g_int g_ve g_err is_err (by walk_at "loc") (by walk_at "loc") (error_fn KX st t (by omega)) hint (by omega) htr haf (by omega) (by omega) rfl
      | some v =>
      rw [hint] at hrun
      cases r' with
      | nil => simp at hrun; subst hrun; exact hE.elim
      | cons nx' r'' =>
      dsimp only at hrun
      obtain ⟨hv0, hv1, hv2⟩ := ht.2 v hint
      refine SX.try_assign ok (EV.int10 ev g_int (.cons (EV.name ev (by walk_at "loc")) (fun _ => rfl) (.cons EV.const_int (fun _ => rfl) .nil)) (by have := ht.1; omega) hint) (by walk_at "upd") rfl ?_
      refine SX.assign ok (EV.binop EV.const_str (EV.tuple (.cons (EV.name ev (by walk_at "loc")) (fun _ => rfl) (.cons (EV.name ev (by walk_at "loc")) (fun _ => rfl) .nil)) (by simp)) (OP2.fmt_sd (by omega) hv0 hv1)) (by walk_at "upd") rfl ?_
      refine SX.nil (SX.nil ⟨_, _, nx', r'', _, _, rfl, hrun, ?_, hr, fun x hx => hrr x (.tail _ hx), ?_⟩)
      · simp only [Str.length_append, hnt]
        simp only [List.length_cons] at hl
        omega
      · simp only [List.length_cons] at hl; omega
  clear hrun hk hm hl hs hn hr ht64 ht htoks hk4 hnt hrr htr hrp
  rintro σ₂ ⟨res, nx₀, nx', r'', vs, vv, rfl, hrun, hres, hsm, hrr, hlen⟩
  refine SX.assignX ok (EX.next (d := .str _) (ds := List.map D.str _) ev g_next (by walk_at "locd") (by walk_at "upd")) (by walk_at "upd") rfl ?_
  refine SX.assign ok EV.const_int (by walk_at "upd") rfl ?_
  -- while nexttok in _binary_ops
  refine SX.whileK (PassesOwn.never)
    (fun n σ => ∃ res j nx' r' vi vo vr, σ = sigP a r' p (.val (.str res)) (.val (.str nx')) vs vv (.val (.int j)) vi vo vr .un .un ∧ run n (.loop p res j nx') r' = R ∧ res.length + 2 + 80 * r'.length ≤ 90000 ∧ Smalls r' ∧ (∀ x ∈ r', Repr1 x) ∧ r'.length ≤ 1000 ∧ n ≤ F)
    (fun σ => ∃ n res j nx' r' vi vo vr, σ = sigP a r' p (.val (.str res)) (.val (.str nx')) vs vv (.val (.int j)) vi vo vr .un .un ∧ run n (.tail p (if j = p ∧ p = 4 then paren res else res) nx') r' = R ∧ res.length + 2 + 80 * r'.length ≤ 90000 ∧ Smalls r' ∧ (∀ x ∈ r', Repr1 x) ∧ r'.length ≤ 1000 ∧ n ≤ F)
    F ⟨res, 100, nx', r'', _, _, _, rfl, hrun, hres, fun x hx => hsm x (.tail _ hx), hrr, hlen, Nat.le_refl _⟩ ?_ ?_
  · clear hrun hres hsm hlen hrr
    rintro n σ₁ ⟨res, j, nx', r', vi, vo, vr, rfl, hrun, hres, hsm, hrr, hlen, hnF⟩
    cases n with
    | zero => simp [run] at hrun; subst hrun; exact hE.elim
    | succ n =>
    unfold run at hrun
    refine ⟨(lvl nx').isSome, _, (EVB.cast (EVB.inTab ev (EV.name ev (by walk_at "loc")) g_ops t_ops) (by rw [ops_look, Option.isSome_map])).toEXB, fun hb => ?_, fun hb => ?_⟩
    · obtain ⟨i, hi⟩ := Option.isSome_iff_exists.mp hb
      rw [hi] at hrun
      dsimp only at hrun
      have hir := lvl_range hi
      refine SX.assign ok (EV.cast (d' := .int i) (EV.itemTab ev (EV.name ev (by walk_at "loc")) g_ops t_ops (by rw [ops_look, hi]; rfl) (.inl ⟨i, rfl⟩) (fun _ _ => rfl)) rfl) (by walk_at "upd") rfl ?_
      refine SX.ite (b := decide (i < p)) (EVB.compare (EV.name ev (by walk_at "loc")) (EV.name ev (by walk_at "loc")) OP2.lt_int rfl) (fun hb2 => ?_) (fun hb2 => ?_)
      · have hip : i < p := of_decide_eq_true hb2
        rw [if_pos hip] at hrun
        exact SX.brk ⟨n, res, j, nx', r', _, _, _, rfl, hrun, hres, hsm, hrr, hlen, by omega⟩
      · have hip : ¬ i < p := of_decide_eq_false hb2
        rw [if_neg hip] at hrun
        refine SX.nil ?_
        have hpl := ite_paren_length ((isCmp i && isCmp j) = true) res
        refine SX.join (b := isCmp i && isCmp j) (fun σ => σ = sigP a r' p (.val (.str (if isCmp i && isCmp j then paren res else res))) (.val (.str nx')) vs vv (.val (.int j)) (.val (.int i)) vo vr .un .un)
          (EVB.and (EVB.compare (EV.name ev (by walk_at "loc")) (EV.tuple (.cons EV.const_int (fun _ => rfl) (.cons EV.const_int (fun _ => rfl) .nil)) (by simp)) (OP2.in_tup_ints (ys := [3, 4])) rfl) (fun _ => EVB.and1 (EVB.compare (EV.name ev (by walk_at "loc")) (EV.tuple (.cons EV.const_int (fun _ => rfl) (.cons EV.const_int (fun _ => rfl) .nil)) (by simp)) (OP2.in_tup_ints (ys := [3, 4])) rfl))) (fun hb3 => ?_) (fun hb3 => ?_) ?_
        · rw [if_pos hb3]
          refine SX.assign ok (EV.binop EV.const_str (EV.name ev (by walk_at "loc")) (OP2.fmt_one (by omega))) (by walk_at "upd") rfl ?_
          exact SX.nil rfl
        · rw [if_neg (by rw [hb3]; decide)]
          exact SX.nil rfl
        rintro σ₃ rfl
        refine SX.assign ok (EV.getTab ev (.cons (EV.name ev (by walk_at "loc")) (fun _ => rfl) (.cons (EV.name ev (by walk_at "loc")) (fun _ => rfl) .nil)) g_c2py t_c2py (py_look nx') rfl) (by walk_at "upd") rfl ?_
        cases hright : run n (.start (i + 1)) r' with
        | out => rw [hright] at hrun; simp at hrun; subst hrun; exact hE.elim
        | bad m r₂ =>
          rw [hright] at hrun
          dsimp only at hrun
          subst hrun
          obtain ⟨r, haf, rfl⟩ := hE
          exact SX.unpackR ok r (EXR.callP ok r is g_parse (parse_isFn KX) (by walk_at "loc") (.cons (EV.binop (EV.name ev (by walk_at "loc")) EV.const_int OP2.add_int) (fun _ => rfl) .nil) ((((ih n (by omega) H mg mb KX st (i + 1) r' hsm hrr hlen).2 _ _ hright).1).mono (by omega : n + 1 ≤ F + 1)) haf (by omega) (by omega)) rfl rfl
        | ok right nx1 r1 =>
        rw [hright] at hrun
        dsimp only at hrun
        obtain ⟨hr1, hnx1, hl1⟩ := run_len n _ r' right nx1 r1 hsm hright
        refine SX.unpack2X ok (EX.callP ev is g_parse (parse_isFn KX) (by walk_at "loc") (by walk_at "upd") (.cons (EV.binop (EV.name ev (by walk_at "loc")) EV.const_int OP2.add_int) (fun _ => rfl) .nil) ((((ih n (by omega) H mg mb KX st (i + 1) r' hsm hrr hlen).1 _ _ _ hright).1).mono (by omega : n + 1 ≤ F + 1)) (by omega) (by omega)) (by walk_at "upd") (by walk_at "upd") rfl rfl ?_
        have hop := pyOp_length hi
        refine SX.assign ok (EV.joined (.first (EV.fmtS (EV.name ev (by walk_at "loc")) (by omega)) (by omega) (.lit (by first | omega | (simp only [Str.length_append]; omega)) (.val (EV.name ev (by walk_at "loc")) (by first | omega | (simp only [Str.length_append]; omega)) (.lit (by first | omega | (simp only [Str.length_append]; omega)) (.val (EV.name ev (by walk_at "loc")) (by first | omega | (simp only [Str.length_append]; omega)) .nil)))))) (by walk_at "upd") rfl ?_
        refine SX.assign ok (EV.name ev (by walk_at "loc")) (by walk_at "upd") rfl ?_
        refine SX.nil ⟨n, by omega, _, i, nx1, r1, _, _, _, rfl, hrun, ?_, hr1, fun x hx => hrr x (run_sub n _ _ _ _ _ hright x hx), by omega, by omega⟩
        simp only [Str.length_append, show (tk " ").length = 1 by decide +kernel]
        omega
    · have hi : lvl nx' = none := by simpa using hb
      rw [hi] at hrun
      exact ⟨n, res, j, nx', r', _, _, _, rfl, hrun, hres, hsm, hrr, hlen, by omega⟩
  clear hrun hres hsm hlen hrr
  rintro σ₁ ⟨n, res, j, nx', r', vi, vo, vr, rfl, hrun, hres, hsm, hrr, hlen, hnF⟩
  -- j == priority == 4
  have hpl := ite_paren_length (j = p ∧ p = 4) res
  refine SX.join (b := (j == p) && (p == 4)) (fun σ => σ = sigP a r' p (.val (.str (if j = p ∧ p = 4 then paren res else res))) (.val (.str nx')) vs vv (.val (.int j)) vi vo vr .un .un)
    (EVB.chain (EV.name ev (by walk_at "loc")) (EV.name ev (by walk_at "loc")) OP2.eq_int (fun _ => EV.const_int) OP2.eq_int rfl) (fun hb => ?_) (fun hb => ?_) ?_
  · rw [if_pos (by simpa using hb)]
    refine SX.assign ok (EV.binop EV.const_str (EV.name ev (by walk_at "loc")) (OP2.fmt_one (by omega))) (by walk_at "upd") rfl ?_
    exact SX.nil rfl
  · rw [if_neg (by simpa using hb)]
    exact SX.nil rfl
  rintro σ₂ rfl
  generalize (if j = p ∧ p = 4 then paren res else res) = res' at hrun hpl ⊢
  cases n with
  | zero => simp [run] at hrun; subst hrun; exact hE.elim
  | succ n =>
  unfold run at hrun
  -- ? :
  by_cases hc : nx' = tk "?" ∧ p ≤ 0
  · rw [if_pos hc] at hrun
    obtain ⟨hq, hp0⟩ := hc
    refine SX.ite_true (EVB.cast (b := (nx' == tk "?") && (decide (p ≤ 0))) (EVB.and (EVB.compare (EV.name ev (by walk_at "loc")) EV.const_str OP2.eq_str rfl) (fun _ => EVB.and1 (EVB.compare (EV.name ev (by walk_at "loc")) EV.const_int OP2.le_int rfl))) (by rw [hq, decide_eq_true hp0]; decide +kernel)) ?_
    cases hyes : run n (.start 0) r' with
    | out => rw [hyes] at hrun; simp at hrun; subst hrun; exact hE.elim
    | bad m r₂ =>
      rw [hyes] at hrun
      dsimp only at hrun
      subst hrun
      obtain ⟨r, haf, rfl⟩ := hE
      exact SX.unpackR ok r (EXR.callP ok r is g_parse (parse_isFn KX) (by walk_at "loc") (.cons EV.const_int (fun _ => rfl) .nil) ((((ih n (by omega) H mg mb KX st 0 r' hsm hrr hlen).2 _ _ hyes).1).mono (by omega : n + 1 ≤ F + 1)) haf (by omega) (by omega)) rfl rfl
    | ok yes nx1 r1 =>
    rw [hyes] at hrun
    dsimp only at hrun
    obtain ⟨hr1, hnx1, hl1⟩ := run_len n _ r' yes nx1 r1 hsm hyes
    have hrr1 : ∀ x ∈ r1, Repr1 x := fun x hx => hrr x (run_sub n _ _ _ _ _ hyes x hx)
    refine SX.unpack2X ok (EX.callP ev is g_parse (parse_isFn KX) (by walk_at "loc") (by walk_at "upd") (.cons EV.const_int (fun _ => rfl) .nil) ((((ih n (by omega) H mg mb KX st 0 r' hsm hrr hlen).1 _ _ _ hyes).1).mono (by omega : n + 1 ≤ F + 1)) (by omega) (by omega)) (by walk_at "upd") (by walk_at "upd") rfl rfl ?_
    by_cases hcc : nx1 = tk ":"
    · rw [if_pos hcc] at hrun
      refine SX.ite_false (by rw [show false = (nx1 != tk ":") by rw [hcc]; decide +kernel]; exact EVB.compare (EV.name ev (by walk_at "loc")) EV.const_str OP2.ne_str rfl) (SX.nil ?_)
      cases hno : run n (.start (-1)) r1 with
      | out => rw [hno] at hrun; simp at hrun; subst hrun; exact hE.elim
      | bad m r₂ =>
        rw [hno] at hrun
        dsimp only at hrun
        subst hrun
        obtain ⟨r, haf, rfl⟩ := hE
        exact SX.unpackR ok r (EXR.callP ok r is g_parse (parse_isFn KX) (by walk_at "loc") .nil ((((ih n (by omega) H mg mb KX st (-1) r1 hr1 hrr1 (by omega)).2 _ _ hno).2 rfl).mono (by omega : n + 1 ≤ F + 1)) haf (by omega) (by omega)) rfl rfl
      | ok no nx2 r2 =>
        rw [hno] at hrun
        dsimp only at hrun
        obtain ⟨hr2, hnx2, hl2⟩ := run_len n _ r1 no nx2 r2 hr1 hno
        refine SX.unpack2X ok (EX.callP ev is g_parse (parse_isFn KX) (by walk_at "loc") (by walk_at "upd") .nil ((((ih n (by omega) H mg mb KX st (-1) r1 hr1 hrr1 (by omega)).1 _ _ _ hno).2 rfl).mono (by omega : n + 1 ≤ F + 1)) (by omega) (by omega)) (by walk_at "upd") (by walk_at "upd") rfl rfl ?_
        refine SX.assign ok (EV.joined (.first (EV.fmtS (EV.name ev (by walk_at "loc")) (by omega)) (by omega) (.lit (by first | omega | (simp only [Str.length_append]; omega)) (.val (EV.name ev (by walk_at "loc")) (by first | omega | (simp only [Str.length_append]; omega)) (.lit (by first | omega | (simp only [Str.length_append]; omega)) (.val (EV.name ev (by walk_at "loc")) (by first | omega | (simp only [Str.length_append]; omega)) .nil)))))) (by walk_at "upd") rfl ?_
        by_cases hp : p = 0
        · rw [if_pos hp] at hrun
          subst hrun
          refine SX.ite_true (EVB.cast (EVB.compare (EV.name ev (by walk_at "loc")) EV.const_int OP2.eq_int rfl) (by rw [hp]; rfl)) ?_
          refine SX.assign (d := .str (paren (yes ++ tk " if " ++ res' ++ tk " else " ++ no))) ok (EV.binop EV.const_str (EV.name ev (by walk_at "loc")) (OP2.fmt_one (by
            simp only [Str.length_append, show (tk " if ").length = 4 by decide +kernel, show (tk " else ").length = 6 by decide +kernel]; omega))) (by walk_at "upd") rfl ?_
          refine SX.nil (SX.nil ?_)
          exact SX.ret (EV.tuple (.cons (EV.name ev (by walk_at "loc")) (fun _ => rfl) (.cons (EV.name ev (by walk_at "loc")) (fun _ => rfl) .nil)) (by simp)) (hE _ (by walk_at "loc"))
        · rw [if_neg hp] at hrun
          subst hrun
          refine SX.ite_false (EVB.cast (EVB.compare (EV.name ev (by walk_at "loc")) EV.const_int OP2.eq_int rfl) (beq_eq_false_iff_ne.mpr hp)) ?_
          refine SX.nil (SX.nil ?_)
          exact SX.ret (EV.tuple (.cons (EV.name ev (by walk_at "loc")) (fun _ => rfl) (.cons (EV.name ev (by walk_at "loc")) (fun _ => rfl) .nil)) (by simp)) (hE _ (by walk_at "loc"))
    · rw [if_neg hcc] at hrun
      subst hrun
      obtain ⟨r, haf, rfl⟩ := hE
      refine SX.ite_true (by rw [show true = (nx1 != tk ":") from (bne_iff_ne.mpr hcc).symm]; exact EVB.compare (EV.name ev (by walk_at "loc")) EV.const_str OP2.ne_str rfl) ?_
      exact SX.raiseF ok r is g_err is_err (by walk_at "loc") (EVs.cN (EV.name ev (by walk_at "loc")) .nil) (error_fn KX st nx1 (by have := hnx1.1; omega)) haf (by omega) (by omega)
  · rw [if_neg hc] at hrun
    subst hrun
    refine SX.ite_false (EVB.cast (b := (nx' == tk "?") && (decide (p ≤ 0))) (EVB.and (EVB.compare (EV.name ev (by walk_at "loc")) EV.const_str OP2.eq_str rfl) (fun _ => EVB.and1 (EVB.compare (EV.name ev (by walk_at "loc")) EV.const_int OP2.le_int rfl))) (by
      cases h1 : (nx' == tk "?") with
      | false => rfl
      | true => rw [Bool.true_and]; exact decide_eq_false fun h2 => hc ⟨eq_of_beq h1, h2⟩)) ?_
    refine SX.nil ?_
    exact SX.ret (EV.tuple (.cons (EV.name ev (by walk_at "loc")) (fun _ => rfl) (.cons (EV.name ev (by walk_at "loc")) (fun _ => rfl) .nil)) (by simp)) (hE _ (by walk_at "loc"))
theorem parse_ends {w : World} {h₁ : Heap} {mg mb : Str → Option Value} (KX : (hd.heap_39 w.params).In h₁) (st : Stat h₁ mg mb) (F : Nat) (ih : ∀ f, f ≤ F → ParseIs w f)
    (p : Int) (toks : List Str) (hs : Smalls toks) (hrp : ∀ t ∈ toks, Repr1 t) (hn : toks.length ≤ 1000)
    (args : List D) (hbind : ∀ (s : Shared) (g : G) (v : Value) (ws : List Value), Keep h₁ s.heap → Reps g ws args → ∃ us, BindsTo s (fdOf (hd.heap_39 w.params) 85) ⟨v :: ws, []⟩ ((tk "tokens", v) :: [tk "priority"].zip us) ∧ Reps g us [.int p]) :
    (∀ text nx rest, run (F + 1) (.start p) toks = .ok text nx rest → PF prg w h₁ 85 (F + 1 + 1) (toks.map .str) args (.tup [.str text, .str nx]) (rest.map .str)) ∧
    ∀ msg rest, run (F + 1) (.start p) toks = .bad msg rest → PFX prg w h₁ 85 (F + 1 + 1) (toks.map .str) args msg (rest.map .str) := by
  refine ⟨fun text nx rest hrun => ?_, fun msg rest hrun => ?_⟩
  · refine PF.of_body (body := bodyOf (hd.heap_39 w.params) 85) (x₀ := tk "tokens") (params := [tk "priority"]) (names := [tk "result", tk "nexttok", tk "sub", tk "value", tk "j", tk "i", tk "op", tk "right", tk "if_true", tk "if_false"]) (args' := [.int p]) st (KX 85 _ rfl) rfl (codeRec_of KX rfl) rfl rfl rfl rfl rfl hbind (by decide) (by decide) (by decide) rfl rfl rfl ?_
    intro c a ok is hsc hdp hun
    exact all_body KX st F ih p toks _ hs hrp hn hrun c a [] ok is hsc hdp hun fun σ hl => ⟨rfl, hl⟩
  · refine PFX.of_body (body := bodyOf (hd.heap_39 w.params) 85) (x₀ := tk "tokens") (params := [tk "priority"]) (names := [tk "result", tk "nexttok", tk "sub", tk "value", tk "j", tk "i", tk "op", tk "right", tk "if_true", tk "if_false"]) (args' := [.int p]) st (KX 85 _ rfl) rfl (codeRec_of KX rfl) rfl rfl rfl rfl rfl hbind (by decide) (by decide) (by decide) rfl rfl rfl ?_
    intro H c a l hKH st' ok is r haf hsc hdp hun
    exact all_body (fun b o e => hKH b o (KX b o e)) st' F ih p toks _ hs hrp hn hrun c a l ok is hsc hdp hun ⟨r, haf, rfl⟩
theorem parse_fn {w : World} : ∀ f, ParseIs w f := by
  have key : ∀ F f, f ≤ F → ParseIs w f := by
    intro F
    induction F with
    | zero =>
      intro f hf h₁ mg mb KX st p toks _ _ _
      have : f = 0 := by omega
      subst this
      exact ⟨fun _ _ _ h => by simp [run] at h, fun _ _ h => by simp [run] at h⟩
    | succ F ih =>
      intro f hf
      by_cases hfF : f ≤ F
      · exact ih f hfF
      · have : f = F + 1 := by omega
        subst this
        intro h₁ mg mb KX st p toks hs hrp hn
        have h1 := parse_ends KX st F ih p toks hs hrp hn [.int p] (fun s g v ws hk hr => by
          cases hr with
          | cons h1 h2 =>
            cases h2
            cases h1 with
            | int _ t => exact ⟨[.int p t], BindsTo.of_defaults rfl (hk _ _ (KX _ _ rfl)) rfl rfl rfl, .cons (.int _ _) .nil⟩)
        have h2 : p = -1 → _ := fun hp => parse_ends KX st F ih p toks hs hrp hn [] (fun s g v ws hk hr => by
          cases hr
          subst hp
          refine ⟨[_], BindsTo.of_defaults rfl (hk _ _ (KX _ _ rfl)) rfl rfl rfl, .cons (.int _ _) .nil⟩)
        exact ⟨fun text nx rest h => ⟨h1.1 _ _ _ h, fun hp => (h2 hp).1 _ _ _ h⟩, fun msg rest h => ⟨h1.2 _ _ h, fun hp => (h2 hp).2 _ _ h⟩⟩
  exact fun f => key f f (Nat.le_refl _)
end Mine
namespace Mine
local macro_rules | `(tactic| walk_at "loc") => `(tactic| first | with_reducible exact Loc.head | (with_reducible apply Loc.tail; walk_at "loc"))
local macro_rules | `(tactic| walk_at "locd") => `(tactic| first | exact Loc.head | (with_reducible apply Loc.tail; walk_at "locd"))
local macro_rules | `(tactic| walk_at "upd") => `(tactic| first | with_reducible exact Upd.head | (with_reducible apply Upd.tail; walk_at "upd"))
theorem O_get {ts : List Str} {i : Nat} {q : Nat × Str} (h : (O 0 ts)[i]? = some q) : ts[q.1]? = some q.2 := by
  obtain ⟨j, t⟩ := q
  simpa using (op_mem ts 0 0 j t (List.mem_of_getElem? h)).2
theorem weakest_fn {w : World} {h₁ : Heap} {mg mb : Str → Option Value} (KX : (hd.heap_39 w.params).In h₁) (st : Stat h₁ mg mb) (part : List Str) (hn : part.length ≤ 1000) : FN prg w h₁ 141 2 [dstrs part] (.tup [.int (weakest part).1, .int (weakest part).2]) := by
  refine FN.of_body (params := [tk "part"]) (names := [tk "weakest", tk "where", tk "at", tk "level"]) st (KX 141 _ rfl) rfl (codeRec_of KX rfl) rfl rfl rfl rfl rfl (bind_one fun _ => rfl) (by decide) (by decide) (by decide) rfl rfl rfl ?_
  intro c ok is hs hdp hun
  have ev := ok.toEv
  have g_out : GL c "_law_outside" (some (.ref 127)) := GL.of is hs rfl rfl ((glob_at KX st.g rfl rfl _).trans rfl)
  have g_level : GL c "_law_level" (some (.ref 92)) := GL.of is hs rfl rfl ((glob_at KX st.g rfl rfl _).trans rfl)
  have is_level : IsFn h₁ 92 := ⟨_, _, KX 92 _ rfl, rfl⟩
  show SX c _ [(tk "part", .val (.list (part.map .str))), (tk "weakest", .un), (tk "where", .un), (tk "at", .un), (tk "level", .un)] _ _
  refine SX.assign ok EV.const_int (by walk_at "upd") rfl ?_
  refine SX.assign ok (EV.neg EV.const_int) (by walk_at "upd") rfl ?_
  have houtO : outside part = (O 0 part).map (·.1) := outGo_op part 0 0
  have hol : (O 0 part).length ≤ 1000 := by have := outside_length part; rw [houtO, List.length_map] at this; omega
  refine SX.forIn ok (ds := nats (outside part)) (fun i σ => ∃ va vl, σ = [(tk "part", .val (.list (part.map .str))), (tk "weakest", .val (.int (((O 0 part).take i).foldl wkF (7, -1)).1)), (tk "where", .val (.int (((O 0 part).take i).foldl wkF (7, -1)).2)), (tk "at", va), (tk "level", vl)])
    (IT.list ev (EV.call ev is g_out ⟨_, _, KX 127 _ rfl, rfl⟩ (EVs.cN (EV.name ev (d := .list (part.map .str)) (by walk_at "loc")) .nil) (outside_fn KX st part hn) (by omega) (by omega))) ⟨_, _, rfl⟩ ?_ ?_ (fun _ => rfl)
  · rintro i dd σ₁ hd ⟨va, vl, rfl⟩
    unfold nats at hd
    rw [List.getElem?_map, Option.map_eq_some_iff] at hd
    obtain ⟨at_, hat, rfl⟩ := hd
    rw [houtO, List.getElem?_map, Option.map_eq_some_iff] at hat
    obtain ⟨⟨j, t⟩, hq, rfl⟩ := hat
    have ht := O_get hq
    have hlt : j < part.length := (List.getElem?_eq_some_iff.mp ht).1
    have htake : (O 0 part).take (i + 1) = (O 0 part).take i ++ [(j, t)] := by rw [List.take_add_one, hq]; rfl
    have hnext : ((O 0 part).take (i + 1)).foldl wkF (7, -1) = wkF (((O 0 part).take i).foldl wkF (7, -1)) (j, t) := by rw [htake, List.foldl_append]; rfl
    generalize ((O 0 part).take i).foldl wkF (7, -1) = acc at hnext
    refine ⟨_, by walk_at "upd", ?_⟩
    refine SX.assign (d := .int (lvo t)) ok (EV.call ev is g_level is_level (EVs.cS (EV.item (EV.name ev (by walk_at "loc")) (EV.name ev (by walk_at "loc")) (by omega) (by simp; omega) (by simp; omega) (by rw [idx_nat, List.getElem?_map]; dsimp only at ht; rw [ht]; rfl) (fun _ _ => rfl)) .nil) (level_fn KX st t) (by omega) (by omega)) (by walk_at "upd") rfl ?_
    refine SX.ite (EVB.chain (b := decide (0 < lvo t)) (b' := decide (lvo t ≤ acc.1)) EV.const_int (EV.name ev (by walk_at "loc")) OP2.lt_int (fun _ => EV.name ev (by walk_at "loc")) OP2.le_int rfl) (fun hb => ?_) (fun hb => ?_)
    · have hc : 0 < lvo t ∧ lvo t ≤ acc.1 := by simpa using hb
      have e : wkF acc (j, t) = (lvo t, (j : Int)) := if_pos hc
      refine SX.assign ok (EV.name ev (by walk_at "loc")) (by walk_at "upd") rfl ?_
      refine SX.assign ok (EV.name ev (by walk_at "loc")) (by walk_at "upd") rfl ?_
      exact SX.nil (SX.nil ⟨_, _, by rw [hnext, e]⟩)
    · have hc : ¬ (0 < lvo t ∧ lvo t ≤ acc.1) := fun k => by simp [k.1, k.2] at hb
      have e : wkF acc (j, t) = acc := if_neg hc
      exact SX.nil (SX.nil ⟨_, _, by rw [hnext, e]⟩)
  · rintro σ₁ ⟨va, vl, rfl⟩
    rw [show (nats (outside part)).length = (O 0 part).length by rw [houtO]; simp [nats], List.take_length]
    exact SX.ret (d := .tup [.int (weakest part).1, .int (weakest part).2]) (EV.tuple (EVs.cN (EV.name ev (d := .int ((O 0 part).foldl wkF (7, -1)).1) (by walk_at "loc")) (EVs.cN (EV.name ev (d := .int ((O 0 part).foldl wkF (7, -1)).2) (by walk_at "loc")) .nil)) (by simp)) rfl
theorem mul_not (k : Nat) : Txt.mul (tk "not ") (k : Int) = notTxt k := by
  have key : ∀ k, (notTxt k).cps = (List.replicate k (tk "not ").cps).foldl (· ++ ·) #[] := by
    intro k
    induction k with
    | zero => decide +kernel
    | succ k ih =>
      rw [List.replicate_succ', List.foldl_append, ← ih]
      show (notTxt k ++ tk "not ").cps = _
      rw [Str.cps_append]; rfl
  unfold Txt.mul
  split
  · next h => have : k = 0 := by omega
              subst this; decide +kernel
  · split
    · next h1 h2 =>
      have : k = 1 := by
        rw [show ((tk "not ").length == 0) = false by decide +kernel, Bool.or_false] at h2
        have := eq_of_beq h2; omega
      subst this; decide +kernel
    · rw [Int.toNat_natCast, ← key k]
theorem num_paren (x : Str) : num (tk "(" ++ x ++ tk ")") = tk "(" ++ x ++ tk ")" := by
  have h : (tk "(" ++ x ++ tk ")").cps.toList = 40 :: (x.cps.toList ++ [41]) := by
    rw [Str.cps_append, Str.cps_append, Array.toList_append, Array.toList_append, show (tk "(").cps.toList = [40] by decide +kernel, show (tk ")").cps.toList = [41] by decide +kernel]; rfl
  unfold num
  rw [h]
  cases hx : x.cps.toList ++ [41] with
  | nil => simp at hx
  | cons a r =>
    rw [show stripL (40 :: a :: r) = 40 :: a :: r from if_neg (by decide), ← hx, ← h]
noncomputable abbrev sigO (part : List Str) (nots core : AV) : Sig := [(tk "part", .val (.list (part.map .str))), (tk "nots", nots), (tk "core", core)]
set_option maxHeartbeats 1000000 in
theorem operand_fn {w : World} {h₁ : Heap} {mg mb : Str → Option Value} (KX : (hd.heap_39 w.params).In h₁) (st : Stat h₁ mg mb) (F : Nat) (hF : 2 ≤ F) (part : List Str) (k : Nat) (x : Str) (hn : part.length ≤ 1000) (hx : x.length ≤ 100000)
    (H : (∃ t, part = nots k ++ [t] ∧ Atm t ∧ t.length ≤ 1000 ∧ x = notTxt k ++ num t) ∨ (∃ m xm, part = nots k ++ tk "(" :: (m ++ [tk ")"]) ∧ FN prg w h₁ 153 F [dstrs m, .int (-1)] (.str xm) ∧ xm.length ≤ 90000 ∧ x = notTxt k ++ (tk "(" ++ xm ++ tk ")"))) : FN prg w h₁ 148 (F + 1) [dstrs part] (.str x) := by
  refine FN.of_body (params := [tk "part"]) (names := [tk "nots", tk "core"]) st (KX 148 _ rfl) rfl (codeRec_of KX rfl) rfl rfl rfl rfl rfl (bind_one fun _ => rfl) (by decide) (by decide) (by decide) rfl rfl rfl ?_
  intro c ok is hs hdp hun
  have ev := ok.toEv
  have g_len : GL c "len" none := GL.of is hs rfl rfl ((glob_at KX st.g rfl rfl _).trans rfl)
  have g_write : GL c "_law_write" (some (.ref 153)) := GL.of is hs rfl rfl ((glob_at KX st.g rfl rfl _).trans rfl)
  have L1 : (Str.ofString "(").length = 1 := by decide +kernel
  have L2 : (Str.ofString ")").length = 1 := by decide +kernel
  have L4 : (Str.ofString "not ").length = 4 := by decide +kernel
  -- the token behind the nots
  obtain ⟨t, rest, hp, htn, htl⟩ : ∃ t rest, part = nots k ++ t :: rest ∧ t ≠ tk "!" ∧ t.length ≤ 1000 := by
    rcases H with ⟨t, rfl, ha, hl, _⟩ | ⟨m, xm, rfl, _, _, _⟩
    · exact ⟨t, [], rfl, (atm_q ha).2.2, hl⟩
    · exact ⟨tk "(", _, rfl, lpar_not, by decide +kernel⟩
  have hnl : (nots k).length = k := by simp [nots]
  have hpl : part.length = k + 1 + rest.length := by rw [hp]; simp [nots]; omega
  have hat : ∀ i, i < k → part[i]? = some (tk "!") := fun i hi => by
    rw [hp, List.getElem?_append_left (by omega)]
    unfold nots; rw [List.getElem?_replicate, if_pos hi]
  have hatk : part[k]? = some t := by rw [hp, List.getElem?_append_right (by omega), hnl]; simp
  show SX c _ (sigO part .un .un) _ _
  refine SX.assign ok EV.const_int (by walk_at "upd") rfl ?_
  have hit : ∀ (σ₀ : Sig) (i : Nat) (u : Str) p0 p1 p2, part[i]? = some u → Loc σ₀ (tk "part") (.val (.list (part.map .str))) → Loc σ₀ (tk "nots") (.val (.int (i : Int))) → EV c σ₀ (.Subscript (.Name "part" p0) (.Name "nots" p1) p2) (.str u) := fun σ₀ i u p0 p1 p2 hu h1 h2 => by
    have hi := (List.getElem?_eq_some_iff.mp hu).1
    exact EV.item (EV.name ev h1) (EV.name ev h2) (by omega) (by simp; omega) (by simp; omega) (by rw [idx_nat]; simp [hu]) (fun _ _ => rfl)
  refine SX.whileK (PassesOwn.never) (fun n σ => ∃ i : Nat, σ = sigO part (.val (.int (i : Int))) .un ∧ n + i = k) (fun σ => σ = sigO part (.val (.int (k : Int))) .un) k ⟨0, rfl, rfl⟩ ?_ ?_
  · rintro n σ₁ ⟨i, rfl, hi⟩
    by_cases hik : i < k
    · refine ⟨true, _, (EVB.cast (EVB.compare (hit _ i _ _ _ _ (hat i hik) (by walk_at "loc") (by walk_at "loc")) EV.const_str OP2.eq_str rfl) (by decide +kernel)).toEXB, fun _ => ?_, fun e => nomatch e⟩
      refine SX.aug ok (by walk_at "loc") EV.const_int OP2.iadd_int (by walk_at "upd") ?_
      exact SX.nil ⟨n - 1, by omega, i + 1, rfl, by omega⟩
    · have : i = k := by omega
      subst this
      exact ⟨false, _, (EVB.cast (EVB.compare (hit _ i _ _ _ _ hatk (by walk_at "loc") (by walk_at "loc")) EV.const_str OP2.eq_str rfl) (beq_eq_false_iff_ne.mpr htn)).toEXB, fun e => (nomatch e), fun _ => rfl⟩
  rintro σ₁ rfl
  refine SX.assign ok (hit _ k t _ _ _ hatk (by walk_at "loc") (by walk_at "loc")) (by walk_at "upd") rfl ?_
  refine SX.join (fun σ => ∃ y : Str, σ = sigO part (.val (.int (k : Int))) (.val (.str y)) ∧ y.length ≤ 100000 ∧ x = notTxt k ++ num y) (b := t == tk "(") (EVB.compare (EV.name ev (by walk_at "loc")) EV.const_str OP2.eq_str rfl) (fun hb => ?_) (fun hb => ?_) ?_
  · have ht := eq_of_beq hb
    rcases H with ⟨t', hp', ha, _, _⟩ | ⟨m, xm, hp', hW, hxl, hxe⟩
    · obtain ⟨_, e2, _⟩ := nots_split htn (atm_q ha).2.2 (hp.symm.trans hp')
      exact absurd (e2.symm.trans ht) (atm_plain ha).1
    · have hcut : cut (some ((k : Int) + 1)) (some (-1)) (part.map D.str) = m.map D.str := by
        rw [cut_map, hp']
        have e1 : clipAt (nots k ++ tk "(" :: (m ++ [tk ")"])).length ((k : Int) + 1) = k + 1 := by
          have : (nots k ++ tk "(" :: (m ++ [tk ")"])).length = k + (m.length + 2) := by simp [nots]
          rw [this]; unfold clipAt; rw [if_neg (by omega)]; omega
        have e2 : clipAt (nots k ++ tk "(" :: (m ++ [tk ")"])).length (-1) = k + 1 + m.length := by
          have : (nots k ++ tk "(" :: (m ++ [tk ")"])).length = k + (m.length + 2) := by simp [nots]
          rw [this]; unfold clipAt; rw [if_pos (by omega)]; omega
        unfold cut
        simp only [Option.elim]
        rw [e1, e2, show nots k ++ tk "(" :: (m ++ [tk ")"]) = (nots k ++ [tk "("]) ++ (m ++ [tk ")"]) by simp, List.drop_append_of_le_length (by simp [nots]), List.drop_of_length_le (by simp [nots]), List.nil_append, show k + 1 + m.length - (k + 1) = m.length by omega]
        simp
      refine SX.assign (d := .str (tk "(" ++ xm ++ tk ")")) ok (EV.binop (EV.binop EV.const_str (EV.call ev is g_write ⟨_, _, KX 153 _ rfl, rfl⟩ (EVs.cS (EV.cast (EV.slice (EV.name ev (by walk_at "loc")) (.some (EV.binop (EV.name ev (by walk_at "loc")) EV.const_int OP2.add_int)) (.some (EV.neg EV.const_int)) (by simp; omega) (fun _ _ => rfl)) (congrArg D.list hcut)) (.cons (EV.neg EV.const_int) (fun _ => rfl) .nil)) hW (by omega) (by omega)) (OP2.add_str (by omega))) EV.const_str (OP2.add_str (by rw [Str.length_append]; omega))) (by walk_at "upd") rfl ?_
      refine SX.nil ⟨_, rfl, ?_, by rw [num_paren]; exact hxe⟩
      rw [Str.length_append, Str.length_append]
      show (Str.ofString "(").length + _ + (Str.ofString ")").length ≤ _
      omega
  · rcases H with ⟨t', hp', ha, _, hxe⟩ | ⟨m, xm, hp', _⟩
    · obtain ⟨_, e2, _⟩ := nots_split htn (atm_q ha).2.2 (hp.symm.trans hp')
      exact SX.nil ⟨t, rfl, by omega, by rw [e2]; exact hxe⟩
    · obtain ⟨_, e2, _⟩ := nots_split htn lpar_not (hp.symm.trans hp')
      exact absurd e2 (ne_of_beq hb)
  rintro σ₂ ⟨y₀, rfl, hyl, hxe⟩
  refine SX.whileK (PassesOwn.never) (fun n σ => ∃ y : Str, σ = sigO part (.val (.int (k : Int))) (.val (.str y)) ∧ n = y.length ∧ y.length ≤ 100000 ∧ num y = num y₀) (fun σ => σ = sigO part (.val (.int (k : Int))) (.val (.str (num y₀)))) y₀.length ⟨y₀, rfl, rfl, hyl, rfl⟩ ?_ ?_
  · rintro n σ₁ ⟨y, rfl, rfl, hy, he⟩
    have hly : y.cps.toList.length = y.length := Array.length_toList
    refine ⟨decide (1 < (y.length : Int)) && (decide (1 < (y.length : Int)) && (Txt.item y 0 == tk "0")), _, EVB.toEXB (EVB.and (EVB.compare (EV.len_str ev g_len (EVs.cN (EV.name ev (by walk_at "loc")) .nil) (by omega)) EV.const_int OP2.gt_int rfl) (fun hb => ?_)), fun hb => ?_, fun hb => ?_⟩
    · have h1 : 1 < (y.length : Int) := of_decide_eq_true hb
      rw [hb, Bool.true_and]
      refine EVB.and1 (EVB.compare (EV.item_str (EV.name ev (by walk_at "loc")) EV.const_int (by omega) (by omega) ?_ (fun _ _ => rfl)) EV.const_str OP2.eq_str rfl)
      cases hc : y.cps.toList with
      | nil => rw [hc] at hly; simp at hly; omega
      | cons a r => rw [charAt_zero hc]; rfl
    · rw [Bool.and_eq_true, Bool.and_eq_true] at hb
      have h1 : 1 < (y.length : Int) := of_decide_eq_true hb.1
      refine SX.assign ok (EV.tail_str (EV.name ev (by walk_at "loc")) EV.const_int (by omega) (fun _ _ => rfl)) (by walk_at "upd") rfl ?_
      rw [tail_eq (by omega)]
      cases hc : y.cps.toList with
      | nil => rw [hc] at hly; simp at hly; omega
      | cons a r =>
        have h0 := hb.2.2
        rw [item_zero hc] at h0
        have ha : a = 48 := by
          have := eq_of_beq h0
          have h2 : (⟨#[a]⟩ : Str).cps = (tk "0").cps := by rw [this]
          have h3 : (tk "0").cps = #[48] := by decide +kernel
          rw [h3] at h2
          simpa using h2
        subst ha
        cases r with
        | nil => rw [hc] at hly; simp at hly; omega
        | cons b r =>
          refine SX.nil ⟨(b :: r).length, ?_, ⟨(b :: r).toArray⟩, rfl, rfl, ?_, ?_⟩
          · rw [hc] at hly; simp at hly ⊢; omega
          · rw [hc] at hly; show (b :: r).toArray.size ≤ 100000; simp at hly ⊢; omega
          · rw [← he]; unfold num; rw [hc, show stripL (48 :: b :: r) = stripL (b :: r) from if_pos rfl]
    · show sigO part _ (AV.val (D.str y)) = _
      have : num y = y := by
        unfold num
        cases hc : y.cps.toList with
        | nil => have : y.cps = #[] := by simpa using hc
                 show (⟨#[]⟩ : Str) = y; cases y; simp at this; rw [this]
        | cons a r =>
          cases r with
          | nil => rw [show stripL [a] = [a] from rfl, ← hc]
          | cons b r =>
            have h1 : decide (1 < (y.length : Int)) = true := by rw [hc] at hly; simp at hly; simp; omega
            rw [h1, Bool.true_and, Bool.true_and, item_zero hc] at hb
            have ha : a ≠ 48 := fun e => by subst e; exact absurd hb (by decide +kernel)
            have : stripL (a :: b :: r) = a :: b :: r := by unfold stripL; rw [if_neg ha]
            rw [this, ← hc]
      rw [← he, this]
  rintro σ₁ rfl
  have hxl : x.length = (notTxt k).length + (num y₀).length := by rw [hxe, Str.length_append]
  refine SX.ret (d := .str x) (EV.cast (EV.binop (EV.binop EV.const_str (EV.name ev (by walk_at "loc")) (OP2.mul_str (by omega) (by omega) (by omega))) (EV.name ev (by walk_at "loc")) (OP2.add_str (by
    rw [show Txt.mul (Str.ofString "not ") (k : Int) = notTxt k from mul_not k]; omega))) ?_) rfl
  rw [show Txt.mul (Str.ofString "not ") (k : Int) = notTxt k from mul_not k, ← hxe]
end Mine
namespace Mine
local macro_rules | `(tactic| walk_at "loc") => `(tactic| first | with_reducible exact Loc.head | (with_reducible apply Loc.tail; walk_at "loc"))
local macro_rules | `(tactic| walk_at "locd") => `(tactic| first | exact Loc.head | (with_reducible apply Loc.tail; walk_at "locd"))
local macro_rules | `(tactic| walk_at "upd") => `(tactic| first | with_reducible exact Upd.head | (with_reducible apply Upd.tail; walk_at "upd"))
theorem bindC_two {fd : FuncData} {x y : Str} (h : ∀ v u, bindArgs fd ⟨[v, u], []⟩ = pure [(x, v), (y, u)]) : ∀ (vs : List Value), vs.length = [x, y].length → bindArgs fd ⟨vs, []⟩ = pure ([x, y].zip vs) := by
  intro vs hv
  match vs, hv with
  | [v, u], _ => exact h v u
theorem look_tab (t : Str) (l : List (Str × Str)) : (Spec.lookup (.str t) (l.map fun p => (.str p.1, .str p.2))).getD (.str t) = .str ((l.lookup t).getD t) := by
  induction l with
  | nil => rfl
  | cons p l ih =>
    rw [List.map_cons, List.lookup_cons]
    have : Spec.lookup (.str t) ((PyData.str p.1, PyData.str p.2) :: l.map fun p => (.str p.1, .str p.2)) = if t == p.1 then some (.str p.2) else Spec.lookup (.str t) (l.map fun p => (.str p.1, .str p.2)) := by
      have := lookup_strs (ps := ((p.1, PyData.str p.2) :: l.map fun p => (p.1, PyData.str p.2))) (y := t)
      rw [List.lookup_cons] at this
      have h2 := lookup_strs (ps := l.map fun p => (p.1, PyData.str p.2)) (y := t)
      simp only [List.map_cons, List.map_map, Function.comp_def] at this h2
      rw [this, h2]
      cases t == p.1 <;> rfl
    rw [this]
    cases t == p.1 with
    | true => rfl
    | false => exact ih
theorem EV.getS {c : Cfg} {σ : Sig} (ok : c.Ev) {ks : List (Option Expr)} {vs : List Expr} {tab : List (Str × Str)} {pd pa pos p q : Pos} {a b a' b' : Expr} {t : Str} (hD : Disp ks vs tab) (hall : ks.all (·.isSome) = true) (hl : ks.length = vs.length) (h0 : ks ≠ []) (hlen : ks.length ≤ 15) (hn : (tab.map (·.1)).Nodup)
    (h1 : EV c σ (.Subscript a b p) (.str t)) (h2 : EV c σ (.Subscript a' b' q) (.str t)) (hbase : attributeBase (.Dict ks vs pd) "get" c.env (eval (.Dict ks vs pd) c.env) = eval (.Dict ks vs pd) c.env) (hline : (pa.endLine == pos.line) = true) :
    EV c σ (.Call (.Attribute (.Dict ks vs pd) "get" pa) [.Subscript a b p, .Subscript a' b' q] [] pos) (.str ((tab.lookup t).getD t)) :=
  TB.get (TB.disp ok.st hD hall hl h0 hlen hn) (EVs.cS h1 (EVs.cS h2 .nil)) (look_tab t tab) hbase hline
theorem pl_len (P : Str → Bool) (part : List Str) : (pl P part).length ≤ part.length := by
  rw [← outside_pl]
  exact Nat.le_trans (List.length_filter_le _ _) (outside_length part)
theorem stripL_len : ∀ l : List Nat, (stripL l).length ≤ l.length
  | [] => Nat.le_refl _
  | [_] => Nat.le_refl _
  | c :: d :: r => by
    have := stripL_len (d :: r)
    unfold stripL; split
    · simp only [List.length_cons] at this ⊢; omega
    · exact Nat.le_refl _
theorem num_len (x : Str) : (num x).length ≤ x.length := by
  have h := stripL_len x.cps.toList
  have e : x.cps.toList.length = x.length := Array.length_toList
  rw [e] at h
  show (stripL x.cps.toList).toArray.size ≤ _
  rw [List.size_toArray]; exact h
theorem wr_len : ∀ (n : Nat) (part : List Str) (q : Int) (x : Str), WR n part q x → (∀ t ∈ part, t.length ≤ 64) → x.length + 2 ≤ 80 * part.length
  | 0, _, _, _, h, _ => h.elim
  | n + 1, part, q, x, h, ht => by
    rcases h with ⟨a, b, c, xa, xb, xc, rfl, _, _, _, _, h1, h2, h3, rfl⟩ | ⟨_, a, b, o, i, xa, xb, rfl, hi, _, h1, h2, rfl⟩ | ⟨_, _, k, ⟨t, rfl, _, rfl⟩ | ⟨m, xm, rfl, h1, rfl⟩⟩
    · have e1 := wr_len n _ _ _ h1 fun t hh => ht t (by simp [hh])
      have e2 := wr_len n _ _ _ h2 fun t hh => ht t (by simp [hh])
      have e3 := wr_len n _ _ _ h3 fun t hh => ht t (by simp [hh])
      have e4 := ite_paren_length (q = 0) (xb ++ tk " if " ++ xa ++ tk " else " ++ xc)
      simp only [Str.length_append, show (tk " if ").length = 4 by decide +kernel, show (tk " else ").length = 6 by decide +kernel] at e4
      simp only [List.length_append, List.length_cons]
      omega
    · have e1 := wr_len n _ _ _ h1 fun t hh => ht t (by simp [hh])
      have e2 := wr_len n _ _ _ h2 fun t hh => ht t (by simp [hh])
      have e3 := ite_paren_length ((isCmp i && isCmp (weakest a).1) = true) xa
      have e4 := ite_paren_length (i = 3 ∧ (weakest b).1 = 4) xb
      have e5 := ite_paren_length (i = 4 ∧ q = 4) ((if isCmp i && isCmp (weakest a).1 then paren xa else xa) ++ tk " " ++ pyOp o ++ tk " " ++ (if i = 3 ∧ (weakest b).1 = 4 then paren xb else xb))
      have e6 := pyOp_length hi
      simp only [Str.length_append, show (tk " ").length = 1 by decide +kernel] at e5
      simp only [List.length_append, List.length_cons]
      omega
    · have e1 := ht t (by simp)
      have e2 := num_len t
      rw [Str.length_append, notTxt_length]
      simp [nots]; omega
    · have e1 := wr_len n _ _ _ h1 fun t hh => ht t (by simp [hh])
      rw [Str.length_append, notTxt_length, Str.length_append, Str.length_append, show (tk "(").length = 1 by decide +kernel, show (tk ")").length = 1 by decide +kernel]
      simp [nots]; omega
noncomputable abbrev sigR (part : List Str) (q : Int) (asks colon text level at_ ahead behind : AV) : Sig :=
  [(tk "part", .val (.list (part.map .str))), (tk "priority", .val (.int q)), (tk "places", .val (.list (nats (outside part)))), (tk "asks", asks), (tk "colon", colon), (tk "text", text), (tk "level", level), (tk "at", at_), (tk "ahead", ahead), (tk "behind", behind)]
set_option maxHeartbeats 4000000 in
theorem write_body {w : World} {h₁ : Heap} {mg mb : Str → Option Value} (KX : (hd.heap_39 w.params).In h₁) (st : Stat h₁ mg mb) (F : Nat) (hF : 2 ≤ F) (part : List Str) (q : Int) (x : Str) (hn : part.length ≤ 1000) (hxl : x.length ≤ 90000)
    (H : (∃ a b cc xa xb xc, part = a ++ tk "?" :: (b ++ tk ":" :: cc) ∧ Bal a ∧ NQ a ∧ Bal b ∧ QB b ∧ FN prg w h₁ 153 F [dstrs b, .int 0] (.str xb) ∧ FN prg w h₁ 153 F [dstrs a, .int 1] (.str xa) ∧ FN prg w h₁ 153 F [dstrs cc, .int (-1)] (.str xc) ∧
        x = (if q = 0 then paren (xb ++ tk " if " ++ xa ++ tk " else " ++ xc) else xb ++ tk " if " ++ xa ++ tk " else " ++ xc) ∧ xa.length ≤ 90000 ∧ xb.length ≤ 90000 ∧ xc.length ≤ 90000) ∨
      (pl (eqT (tk "?")) part = [] ∧ ((∃ a b o i xa xb, part = a ++ o :: b ∧ lvl o = some i ∧ weakest part = (i, (a.length : Int)) ∧ FN prg w h₁ 153 F [dstrs a, .int 1] (.str xa) ∧ FN prg w h₁ 153 F [dstrs b, .int 1] (.str xb) ∧
        x = (if i = 4 ∧ q = 4 then paren ((if isCmp i && isCmp (weakest a).1 then paren xa else xa) ++ tk " " ++ pyOp o ++ tk " " ++ (if i = 3 ∧ (weakest b).1 = 4 then paren xb else xb))
          else (if isCmp i && isCmp (weakest a).1 then paren xa else xa) ++ tk " " ++ pyOp o ++ tk " " ++ (if i = 3 ∧ (weakest b).1 = 4 then paren xb else xb)) ∧ xa.length ≤ 90000 ∧ xb.length ≤ 90000) ∨
      (weakest part = (7, -1) ∧ FN prg w h₁ 148 F [dstrs part] (.str x))))) : FN prg w h₁ 153 (F + 1) [dstrs part, .int q] (.str x) := by
  refine FN.of_bodyC (params := [tk "part", tk "priority"]) (names := [tk "places", tk "asks", tk "colon", tk "text", tk "level", tk "at", tk "ahead", tk "behind"]) st (KX 153 _ rfl) rfl (codeRec_of KX rfl) rfl rfl rfl rfl rfl (bindC_two fun _ _ => rfl) (by decide) (by decide) rfl rfl rfl ?_
  intro c ok is hs hdp hun
  have ev := ok.toEv
  have g_out : GL c "_law_outside" (some (.ref 127)) := GL.of is hs rfl rfl ((glob_at KX st.g rfl rfl _).trans rfl)
  have g_colon : GL c "_law_colon" (some (.ref 134)) := GL.of is hs rfl rfl ((glob_at KX st.g rfl rfl _).trans rfl)
  have g_weak : GL c "_law_weakest" (some (.ref 141)) := GL.of is hs rfl rfl ((glob_at KX st.g rfl rfl _).trans rfl)
  have g_opd : GL c "_law_operand" (some (.ref 148)) := GL.of is hs rfl rfl ((glob_at KX st.g rfl rfl _).trans rfl)
  have g_write : GL c "_law_write" (some (.ref 153)) := GL.of is hs rfl rfl ((glob_at KX st.g rfl rfl _).trans rfl)
  have is_write : IsFn h₁ 153 := ⟨_, _, KX 153 _ rfl, rfl⟩
  have is_weak : IsFn h₁ 141 := ⟨_, _, KX 141 _ rfl, rfl⟩
  have kp : c.env.kindOf (tk "part") = some .cell := by unfold Env.kindOf; rw [hs]; rfl
  have ka : c.env.kindOf (tk "asks") = some .local := by unfold Env.kindOf; rw [hs]; rfl
  have L1 : (Str.ofString "(").length = 1 := by decide +kernel
  have L2 : (Str.ofString ")").length = 1 := by decide +kernel
  have L3 : (Str.ofString " ").length = 1 := by decide +kernel
  have L4 : (Str.ofString " if ").length = 4 := by decide +kernel
  have L5 : (Str.ofString " else ").length = 6 := by decide +kernel
  show SX c _ [(tk "part", .val (.list (part.map .str))), (tk "priority", .val (.int q)), (tk "places", .un), (tk "asks", .un), (tk "colon", .un), (tk "text", .un), (tk "level", .un), (tk "at", .un), (tk "ahead", .un), (tk "behind", .un)] _ _
  refine SX.assign ok (EV.call ev is g_out ⟨_, _, KX 127 _ rfl, rfl⟩ (.one (EV.name ev (by walk_at "locd")) (fun _ => rfl)) ((outside_fn KX st part hn).mono (by omega : 1 ≤ F)) (by omega) (by omega)) (by walk_at "upd") rfl ?_
  have hfree1 : ∀ (σ₀ : Sig), tk "part" ∈ σ₀.map (·.1) → ∀ n ∈ [tk "part"], c.env.kindOf n = some .cell ∧ n ∈ σ₀.map (·.1) := fun σ₀ h n hn' => by
    rw [List.mem_singleton.mp hn']; exact ⟨kp, h⟩
  have hit : ∀ {c' : Cfg} {σ₀ : Sig} {i : Nat} {x : Str} {p q r : Pos}, c'.Ev → part[i]? = some x → Loc σ₀ (tk "part") (.val (.list (part.map .str))) → Loc σ₀ (tk "at") (.val (.int (i : Int))) → EV c' σ₀ (.Subscript (.Name (tk "part") p) (.Name (tk "at") q) r) (.str x) := fun ev' hx h1 h2 => by
    have hi := (List.getElem?_eq_some_iff.mp hx).1
    exact EV.item (EV.name ev' h1) (EV.name ev' h2) (by omega) (by simp; omega) (by simp; omega) (by rw [idx_nat]; simp [hx]) (fun _ _ => rfl)
  refine SX.places ok part (eqT (tk "?")) [(tk "part", .val (.list (part.map .str)))] hn (IT.list ev (EV.name ev (by walk_at "loc"))) (by decide) rfl (by decide) rfl (hfree1 _ (.head _)) (fun q hq => by rw [List.mem_singleton.mp hq]; exact ⟨.head _, rfl, rfl, .head _⟩) (by show [tk "at", tk "part"].Nodup; decide)
    (fun c' i x co hx => EVB.compare (hit co.ev hx (by walk_at "loc") (by walk_at "loc")) EV.const_str OP2.eq_str rfl) (fun _ => rfl) rfl rfl ka (by walk_at "upd") ?_
  show SX c _ (sigR part q (.val (.list (nats (pl (eqT (tk "?")) part)))) .un .un .un .un .un .un) _ _
  have hwr : ∀ (σ₀ : Sig) (p : List Str) (y : Str) (e1 e2 : Expr) (n : Int) p0 p1 p2, EV c σ₀ (.Subscript e1 e2 p1) (.list (p.map .str)) → (∀ k t z, (EVs c σ₀ [.Constant (.int k) t z] [.int k])) → FN prg w h₁ 153 F [dstrs p, .int n] (.str y) → ∀ (e3 : Expr), EVs c σ₀ [e3] [.int n] → EV c σ₀ (.Call (.Name "_law_write" p0) [.Subscript e1 e2 p1, e3] [] p2) (.str y) := fun σ₀ p y e1 e2 n p0 p1 p2 h1 _ h2 e3 h3 =>
    EV.call ev is g_write is_write (EVs.cS h1 h3) h2 (by omega) (by omega)
  have hk0 : ∀ (σ₀ : Sig) (k : Int) t z, (EVs c σ₀ [.Constant (.int k) t z] [.int k]) := fun σ₀ k t z => EVs.cC EV.const_int .nil
  have hkm : ∀ (σ₀ : Sig) t z z', (EVs c σ₀ [.UnaryOp .USub (.Constant (.int 1) t z) z'] [.int (-1)]) := fun σ₀ t z z' => .cons (EV.neg EV.const_int) (fun _ => rfl) .nil
  rcases H with ⟨a, b, cc, xa, xb, xc, hp, ha1, ha2, hb1, hb2, f1, f2, f3, hx, la, lb, lc⟩ | ⟨hq, HH⟩
  · obtain ⟨qs, hpl⟩ := pl_first (P := eqT (tk "?")) (b := b ++ tk ":" :: cc) ha1 plain_q (by decide +kernel) (eqT_none fun t ht => (ha2 t ht).1)
    rw [← hp] at hpl
    have hcol := colon_cond (c := cc) ha2 ha1 hb2 hb1
    rw [← hp] at hcol
    have hlen : part.length = a.length + 1 + b.length + 1 + cc.length := by rw [hp]; simp; omega
    have hpll := pl_len (eqT (tk "?")) part
    refine SX.ite_true (EVB.cast (EVB.compare (EV.name ev (by walk_at "loc")) (EV.list .nil (by simp)) (OP2.ne_nil ev) rfl) (by rw [hpl]; rfl)) ?_
    refine SX.assign (d := .int ((a.length + 1 + b.length : Nat) : Int)) ok (EV.cast (EV.call ev is g_colon ⟨_, _, KX 134 _ rfl, rfl⟩ (EVs.cN (EV.name ev (d := .list (part.map .str)) (by walk_at "loc")) (EVs.cN (EV.name ev (by walk_at "loc")) .nil)) ((colon_fn KX st part (outside part) hn fun i hi => outside_lt hi).mono (by omega : 1 ≤ F)) (by omega) (by omega)) (by rw [hcol])) (by walk_at "upd") rfl ?_
    have hi0 : ∀ σ₀ p q r kk, Loc σ₀ (tk "asks") (.val (.list (nats (pl (eqT (tk "?")) part)))) → EV c σ₀ (.Subscript (.Name (tk "asks") p) (.Constant (.int 0) kk q) r) (.int (a.length : Int)) := fun σ₀ p q r kk hl =>
      EV.item (EV.name ev hl) EV.const_int (by simp [nats]) (by simp [nats, hpl]) (by simp [nats]; omega) (by rw [hpl]; simp [nats, idx]) (fun _ _ => rfl)
    have hs1 : cut none (some (a.length : Int)) (part.map D.str) = a.map D.str := by rw [cut_map, cut_take (by omega), hp]; simp
    have hs2 : cut (some ((a.length : Int) + 1)) (some ((a.length + 1 + b.length : Nat) : Int)) (part.map D.str) = b.map D.str := by
      rw [show ((a.length : Int) + 1) = ((a.length + 1 : Nat) : Int) by simp, cut_map, cut_mid (by omega) (by omega), hp]
      rw [show a ++ tk "?" :: (b ++ tk ":" :: cc) = (a ++ [tk "?"]) ++ (b ++ tk ":" :: cc) by simp]
      rw [List.drop_append_of_le_length (by simp), List.drop_of_length_le (by simp), List.nil_append, show a.length + 1 + b.length - (a.length + 1) = b.length by omega]
      simp
    have hs3 : cut (some (((a.length + 1 + b.length : Nat) : Int) + 1)) none (part.map D.str) = cc.map D.str := by
      rw [show (((a.length + 1 + b.length : Nat) : Int) + 1) = ((a.length + 1 + b.length + 1 : Nat) : Int) by simp, cut_map, cut_drop (by omega), hp]
      rw [show a ++ tk "?" :: (b ++ tk ":" :: cc) = (a ++ [tk "?"] ++ b ++ [tk ":"]) ++ cc by simp]
      rw [List.drop_append_of_le_length (by simp; omega), List.drop_of_length_le (by simp; omega), List.nil_append]
    with_reducible refine SX.assign (d := .str (xb ++ tk " if " ++ xa)) (σ' := sigR part q (.val (.list (nats (pl (eqT (tk "?")) part)))) (.val (.int ((a.length + 1 + b.length : Nat) : Int))) (.val (.str (xb ++ tk " if " ++ xa))) .un .un .un .un) ok ?_ ?_ ?_ ?_
    · exact EV.binop (EV.binop (hwr _ b xb _ _ 0 _ _ _ (EV.cast (EV.slice (EV.name ev (by walk_at "loc")) (.some (EV.binop (hi0 _ _ _ _ _ (by walk_at "loc")) EV.const_int OP2.add_int)) (.some (EV.name ev (by walk_at "loc"))) (by simp; omega) (fun _ _ => rfl)) (congrArg D.list hs2)) (hk0 _) f1 _ (hk0 _ 0 _ _)) EV.const_str (OP2.add_str (by omega))) (hwr _ a xa _ _ 1 _ _ _ (EV.cast (EV.slice (EV.name ev (by walk_at "loc")) .none (.some (hi0 _ _ _ _ _ (by walk_at "loc"))) (by simp; omega) (fun _ _ => rfl)) (congrArg D.list hs1)) (hk0 _) f2 _ (hk0 _ 1 _ _)) (OP2.add_str (by rw [Str.length_append]; omega))
    · walk_at "upd"
    · rfl
    with_reducible refine SX.assign (d := .str (xb ++ tk " if " ++ xa ++ tk " else " ++ xc)) (σ' := sigR part q (.val (.list (nats (pl (eqT (tk "?")) part)))) (.val (.int ((a.length + 1 + b.length : Nat) : Int))) (.val (.str (xb ++ tk " if " ++ xa ++ tk " else " ++ xc))) .un .un .un .un) ok ?_ ?_ ?_ ?_
    · exact EV.binop (EV.binop (EV.name ev (by walk_at "loc")) EV.const_str (OP2.add_str (by rw [Str.length_append, Str.length_append]; show _ + (Str.ofString " if ").length + _ + _ ≤ _; omega))) (hwr _ cc xc _ _ (-1) _ _ _ (EV.cast (EV.slice (EV.name ev (by walk_at "loc")) (.some (EV.binop (EV.name ev (by walk_at "loc")) EV.const_int OP2.add_int)) .none (by simp; omega) (fun _ _ => rfl)) (congrArg D.list hs3)) (hk0 _) f3 _ (hkm _ _ _ _)) (OP2.add_str (by rw [Str.length_append, Str.length_append, Str.length_append]; show _ + (Str.ofString " if ").length + _ + _ + _ ≤ _; omega))
    · walk_at "upd"
    · rfl
    have hT : (xb ++ tk " if " ++ xa ++ tk " else " ++ xc).length ≤ 300000 := by
      simp only [Str.length_append]; show _ + (Str.ofString " if ").length + _ + (Str.ofString " else ").length + _ ≤ _; omega
    generalize xb ++ tk " if " ++ xa ++ tk " else " ++ xc = T at hx hT
    refine SX.join (fun σ => σ = sigR part q (.val (.list (nats (pl (eqT (tk "?")) part)))) (.val (.int ((a.length + 1 + b.length : Nat) : Int))) (.val (.str x)) .un .un .un .un) (b := q == 0) (EVB.compare (EV.name ev (by walk_at "loc")) EV.const_int OP2.eq_int rfl) (fun hb => ?_) (fun hb => ?_) ?_
    · rw [if_pos (by simpa using hb)] at hx
      refine SX.assign ok (EV.binop (EV.binop EV.const_str (EV.name ev (by walk_at "loc")) (OP2.add_str (by omega))) EV.const_str (OP2.add_str (by rw [Str.length_append]; omega))) (by walk_at "upd") rfl ?_
      exact SX.nil (by subst hx; rfl)
    · rw [if_neg (by simpa using hb)] at hx
      exact SX.nil (by subst hx; rfl)
    rintro σ₂ rfl
    exact SX.ret (EV.name ev (by walk_at "loc")) rfl
  refine SX.ite_false (EVB.cast (EVB.compare (EV.name ev (by walk_at "loc")) (EV.list .nil (by simp)) (OP2.ne_nil ev) rfl) (by rw [hq]; rfl)) ?_
  refine SX.nil ?_
  generalize (AV.val (.list (nats (pl (eqT (tk "?")) part)))) = vas
  rcases HH with ⟨a, b, o, i, xa, xb, hp, hi, hwk, f1, f2, hx, la, lb⟩ | ⟨hwk, f1⟩
  · have hlen : part.length = a.length + 1 + b.length := by rw [hp]; simp; omega
    have hho : part[a.length]? = some o := by rw [hp]; exact get_mid a o b
    have hr := lvl_range hi
    have hs1 : cut none (some (a.length : Int)) (part.map D.str) = a.map D.str := by rw [cut_map, cut_take (by omega), hp]; simp
    have hs2 : cut (some ((a.length : Int) + 1)) none (part.map D.str) = b.map D.str := by
      rw [show ((a.length : Int) + 1) = ((a.length + 1 : Nat) : Int) by simp, cut_map, cut_drop (by omega), hp]
      rw [show a ++ o :: b = (a ++ [o]) ++ b by simp, List.drop_append_of_le_length (by simp), List.drop_of_length_le (by simp), List.nil_append]
    refine SX.unpack2X (d₁ := .int i) (d₂ := .int (a.length : Int)) ok (EV.toEX (EV.cast (EV.call ev is g_weak is_weak (EVs.cN (EV.name ev (d := .list (part.map .str)) (by walk_at "loc")) .nil) ((weakest_fn KX st part hn).mono hF) (by omega) (by omega)) (by rw [hwk]))) (by walk_at "upd") (by walk_at "upd") rfl rfl ?_
    refine SX.ite_false (EVB.cast (EVB.compare (EV.name ev (by walk_at "loc")) EV.const_int OP2.lt_int rfl) (decide_eq_false (by omega))) ?_
    refine SX.nil ?_
    have hslA : ∀ (σ₀ : Sig) p0 p1 p2 p3, Loc σ₀ (tk "part") (.val (.list (part.map .str))) → Loc σ₀ (tk "at") (.val (.int (a.length : Int))) → EV c σ₀ (.Subscript (.Name "part" p0) (.Slice none (some (.Name "at" p1)) none p2) p3) (.list (a.map .str)) := fun σ₀ p0 p1 p2 p3 h1 h2 =>
      EV.cast (EV.slice (EV.name ev h1) .none (.some (EV.name ev h2)) (by simp; omega) (fun _ _ => rfl)) (congrArg D.list hs1)
    have hslB : ∀ (σ₀ : Sig) p0 p1 p2 p3 k p4 p5, Loc σ₀ (tk "part") (.val (.list (part.map .str))) → Loc σ₀ (tk "at") (.val (.int (a.length : Int))) → EV c σ₀ (.Subscript (.Name "part" p0) (.Slice (some (.BinOp (.Name "at" p1) .Add (.Constant (.int 1) k p4) p5)) none none p2) p3) (.list (b.map .str)) := fun σ₀ p0 p1 p2 p3 k p4 p5 h1 h2 =>
      EV.cast (EV.slice (EV.name ev h1) (.some (EV.binop (EV.name ev h2) EV.const_int OP2.add_int)) .none (by simp; omega) (fun _ _ => rfl)) (congrArg D.list hs2)
    refine SX.assign ok (hwr _ a xa _ _ 1 _ _ _ (hslA _ _ _ _ _ (by walk_at "loc") (by walk_at "loc")) (hk0 _) f1 _ (hk0 _ 1 _ _)) (by walk_at "upd") rfl ?_
    refine SX.assign ok (hwr _ b xb _ _ 1 _ _ _ (hslB _ _ _ _ _ _ _ _ (by walk_at "loc") (by walk_at "loc")) (hk0 _) f2 _ (hk0 _ 1 _ _)) (by walk_at "upd") rfl ?_
    show SX c _ (sigR part q vas .un .un (.val (.int i)) (.val (.int (a.length : Int))) (.val (.str xa)) (.val (.str xb))) _ _
    have hwkA : ∀ (σ₀ : Sig) (e : Expr) p0 p2 p3 k p4 (e1 e2 : Expr) pz, e = .Subscript e1 e2 pz → EV c σ₀ (.Subscript e1 e2 pz) (.list (a.map .str)) → EV c σ₀ (.Subscript (.Call (.Name "_law_weakest" p0) [e] [] p2) (.Constant (.int 0) k p3) p4) (.int (weakest a).1) := fun σ₀ e p0 p2 p3 k p4 e1 e2 pz he h => by
      subst he
      exact EV.item_tup (EV.call ev is g_weak is_weak (EVs.cS h .nil) ((weakest_fn KX st a (by omega)).mono hF) (by omega) (by omega)) EV.const_int (by decide) (by simp) (by simp) rfl (fun _ _ => rfl)
    have hwkB : ∀ (σ₀ : Sig) (e : Expr) p0 p2 p3 k p4 (e1 e2 : Expr) pz, e = .Subscript e1 e2 pz → EV c σ₀ (.Subscript e1 e2 pz) (.list (b.map .str)) → EV c σ₀ (.Subscript (.Call (.Name "_law_weakest" p0) [e] [] p2) (.Constant (.int 0) k p3) p4) (.int (weakest b).1) := fun σ₀ e p0 p2 p3 k p4 e1 e2 pz he h => by
      subst he
      exact EV.item_tup (EV.call ev is g_weak is_weak (EVs.cS h .nil) ((weakest_fn KX st b (by omega)).mono hF) (by omega) (by omega)) EV.const_int (by decide) (by simp) (by simp) rfl (fun _ _ => rfl)
    have h34 : ∀ (σ₀ : Sig) k1 k2 kt q1 q2 q3, EV c σ₀ (.Tuple [.Constant (.int 3) k1 q1, .Constant (.int 4) k2 q2] kt q3) (.tup ([3, 4].map .int)) := fun σ₀ k1 k2 kt q1 q2 q3 => EV.tuple (EVs.cC EV.const_int (EVs.cC EV.const_int .nil)) (by simp)
    have la2 := ite_paren_length ((isCmp i && isCmp (weakest a).1) = true) xa
    have lb2 := ite_paren_length (i = 3 ∧ (weakest b).1 = 4) xb
    have lo := pyOp_length hi
    refine SX.join (fun σ => σ = sigR part q vas .un .un (.val (.int i)) (.val (.int (a.length : Int))) (.val (.str (if isCmp i && isCmp (weakest a).1 then paren xa else xa))) (.val (.str xb))) (b := isCmp i && isCmp (weakest a).1) (EVB.and (EVB.compare (EV.name ev (by walk_at "loc")) (h34 _ _ _ _ _ _ _) OP2.in_tup_ints rfl) fun _ => EVB.and1 (EVB.compare (hwkA _ _ _ _ _ _ _ _ _ _ rfl (hslA _ _ _ _ _ (by walk_at "loc") (by walk_at "loc"))) (h34 _ _ _ _ _ _ _) OP2.in_tup_ints rfl)) (fun hb => ?_) (fun hb => ?_) ?_
    · refine SX.assign (d := .str (paren xa)) ok (EV.binop (EV.binop EV.const_str (EV.name ev (by walk_at "loc")) (OP2.add_str (by omega))) EV.const_str (OP2.add_str (by rw [Str.length_append]; omega))) (by walk_at "upd") rfl ?_
      exact SX.nil (by show sigR _ _ _ _ _ _ _ _ _ = sigR _ _ _ _ _ _ _ _ _; rw [if_pos hb])
    · exact SX.nil (by show sigR _ _ _ _ _ _ _ _ _ = sigR _ _ _ _ _ _ _ _ _; rw [if_neg (by rw [hb]; decide)])
    rintro σ₂ rfl
    generalize (if isCmp i && isCmp (weakest a).1 then paren xa else xa) = ya at hx la2
    refine SX.join (fun σ => σ = sigR part q vas .un .un (.val (.int i)) (.val (.int (a.length : Int))) (.val (.str ya)) (.val (.str (if i = 3 ∧ (weakest b).1 = 4 then paren xb else xb)))) (b := (i == 3) && ((weakest b).1 == 4)) (EVB.and (EVB.compare (EV.name ev (by walk_at "loc")) EV.const_int OP2.eq_int rfl) fun _ => EVB.and1 (EVB.compare (hwkB _ _ _ _ _ _ _ _ _ _ rfl (hslB _ _ _ _ _ _ _ _ (by walk_at "loc") (by walk_at "loc"))) EV.const_int OP2.eq_int rfl)) (fun hb => ?_) (fun hb => ?_) ?_
    · refine SX.assign (d := .str (paren xb)) ok (EV.binop (EV.binop EV.const_str (EV.name ev (by walk_at "loc")) (OP2.add_str (by omega))) EV.const_str (OP2.add_str (by rw [Str.length_append]; omega))) (by walk_at "upd") rfl ?_
      exact SX.nil (by show sigR _ _ _ _ _ _ _ _ _ = sigR _ _ _ _ _ _ _ _ _; rw [if_pos (by simpa using hb)])
    · exact SX.nil (by show sigR _ _ _ _ _ _ _ _ _ = sigR _ _ _ _ _ _ _ _ _; rw [if_neg (fun k => by rw [k.1, k.2] at hb; simp at hb)])
    rintro σ₂ rfl
    generalize (if i = 3 ∧ (weakest b).1 = 4 then paren xb else xb) = yb at hx lb2
    have hTl : (ya ++ tk " " ++ pyOp o ++ tk " " ++ yb).length ≤ 200000 := by
      simp only [Str.length_append]; show _ + (Str.ofString " ").length + _ + (Str.ofString " ").length + _ ≤ _; omega
    have hget : ∀ (σ₀ : Sig) (ks : List (Option Expr)) (vs : List Expr) (pd pa pos p0 p1 p2 q0 q1 q2 : Pos), Disp ks vs pyTab → ks.all (·.isSome) = true → ks.length = vs.length → ks ≠ [] → ks.length ≤ 15 → Loc σ₀ (tk "part") (.val (.list (part.map .str))) → Loc σ₀ (tk "at") (.val (.int (a.length : Int))) → attributeBase (.Dict ks vs pd) "get" c.env (eval (.Dict ks vs pd) c.env) = eval (.Dict ks vs pd) c.env → (pa.endLine == pos.line) = true → EV c σ₀ (.Call (.Attribute (.Dict ks vs pd) "get" pa) [.Subscript (.Name "part" p0) (.Name "at" p1) p2, .Subscript (.Name "part" q0) (.Name "at" q1) q2] [] pos) (.str (pyOp o)) := fun σ₀ ks vs pd pa pos p0 p1 p2 q0 q1 q2 h1 h2 h3 h4 h5 h6 h7 h8 h9 =>
      EV.getS ev h1 h2 h3 h4 h5 (by decide +kernel) (hit ev hho h6 h7) (hit ev hho h6 h7) h8 h9
    with_reducible refine SX.assign (d := .str (ya ++ tk " " ++ pyOp o ++ tk " " ++ yb)) (σ' := sigR part q vas .un (.val (.str (ya ++ tk " " ++ pyOp o ++ tk " " ++ yb))) (.val (.int i)) (.val (.int (a.length : Int))) (.val (.str ya)) (.val (.str yb))) ok ?_ ?_ ?_ ?_
    · refine EV.binop (EV.binop (EV.binop (EV.binop (EV.name ev (by walk_at "loc")) EV.const_str (OP2.add_str ?_)) (hget _ _ _ _ _ _ _ _ _ _ _ _ (.cons (.cons (.cons .nil))) rfl rfl (by simp) (by simp) (by walk_at "loc") (by walk_at "loc") rfl rfl) (OP2.add_str ?_)) EV.const_str (OP2.add_str ?_)) (EV.name ev (by walk_at "loc")) (OP2.add_str ?_)
      · omega
      · rw [Str.length_append]; omega
      · rw [Str.length_append, Str.length_append]; omega
      · rw [Str.length_append, Str.length_append, Str.length_append]; omega
    · walk_at "upd"
    · rfl
    generalize ya ++ tk " " ++ pyOp o ++ tk " " ++ yb = T at hx hTl
    refine SX.join (fun σ => σ = sigR part q vas .un (.val (.str x)) (.val (.int i)) (.val (.int (a.length : Int))) (.val (.str ya)) (.val (.str yb))) (b := (i == 4) && (q == 4)) (EVB.and (EVB.compare (EV.name ev (by walk_at "loc")) EV.const_int OP2.eq_int rfl) fun _ => EVB.and1 (EVB.compare (EV.name ev (by walk_at "loc")) EV.const_int OP2.eq_int rfl)) (fun hb => ?_) (fun hb => ?_) ?_
    · rw [if_pos (by simpa using hb)] at hx
      refine SX.assign ok (EV.binop (EV.binop EV.const_str (EV.name ev (by walk_at "loc")) (OP2.add_str (by omega))) EV.const_str (OP2.add_str (by rw [Str.length_append]; omega))) (by walk_at "upd") rfl ?_
      exact SX.nil (by subst hx; rfl)
    · rw [if_neg (fun k => by rw [k.1, k.2] at hb; simp at hb)] at hx
      exact SX.nil (by subst hx; rfl)
    rintro σ₂ rfl
    exact SX.ret (EV.name ev (by walk_at "loc")) rfl
  · refine SX.unpack2X (d₁ := .int 7) (d₂ := .int (-1)) ok (EV.toEX (EV.cast (EV.call ev is g_weak is_weak (EVs.cN (EV.name ev (d := .list (part.map .str)) (by walk_at "loc")) .nil) ((weakest_fn KX st part hn).mono hF) (by omega) (by omega)) (by rw [hwk]))) (by walk_at "upd") (by walk_at "upd") rfl rfl ?_
    refine SX.ite_true (EVB.compare (EV.name ev (by walk_at "loc")) EV.const_int OP2.lt_int rfl) ?_
    exact SX.ret (EV.call ev is g_opd ⟨_, _, KX 148 _ rfl, rfl⟩ (EVs.cN (EV.name ev (d := .list (part.map .str)) (by walk_at "loc")) .nil) f1 (by omega) (by omega)) rfl
theorem write_fn {w : World} {h₁ : Heap} {mg mb : Str → Option Value} (KX : (hd.heap_39 w.params).In h₁) (st : Stat h₁ mg mb) : ∀ (n : Nat) (part : List Str) (q : Int) (x : Str), WR n part q x → part.length ≤ 1000 → (∀ t ∈ part, t.length ≤ 64) → FN prg w h₁ 153 (2 * n + 2) [dstrs part, .int q] (.str x)
  | 0, _, _, _, h, _, _ => h.elim
  | n + 1, part, q, x, h, hl, ht => by
    have hxl := wr_len _ _ _ _ h ht
    have B : ∀ (p : List Str), p.length ≤ 1000 → ∀ (y : Str), y.length + 2 ≤ 80 * p.length → y.length ≤ 90000 := fun p h1 y h2 => by omega
    refine write_body KX st (2 * n + 3) (by omega) part q x hl (by omega) ?_
    rcases h with ⟨a, b, c, xa, xb, xc, rfl, ha, ha2, hb, hb2, h1, h2, h3, hx⟩ | ⟨hq, a, b, o, i, xa, xb, rfl, hi, hw, h1, h2, hx⟩ | ⟨hq, hw, k, HK⟩
    · have hlen : (a ++ tk "?" :: (b ++ tk ":" :: c)).length = a.length + b.length + c.length + 2 := by simp; omega
      have ta : ∀ t ∈ a, t.length ≤ 64 := fun t hh => ht t (by simp [hh])
      have tb : ∀ t ∈ b, t.length ≤ 64 := fun t hh => ht t (by simp [hh])
      have tc : ∀ t ∈ c, t.length ≤ 64 := fun t hh => ht t (by simp [hh])
      refine .inl ⟨a, b, c, xa, xb, xc, rfl, ha, ha2, hb, hb2, (write_fn KX st n b 0 xb h1 (by omega) tb).mono (by omega), (write_fn KX st n a 1 xa h2 (by omega) ta).mono (by omega), (write_fn KX st n c (-1) xc h3 (by omega) tc).mono (by omega), hx, B a (by omega) _ (wr_len _ _ _ _ h2 ta), B b (by omega) _ (wr_len _ _ _ _ h1 tb), B c (by omega) _ (wr_len _ _ _ _ h3 tc)⟩
    · have hlen : (a ++ o :: b).length = a.length + b.length + 1 := by simp; omega
      have ta : ∀ t ∈ a, t.length ≤ 64 := fun t hh => ht t (by simp [hh])
      have tb : ∀ t ∈ b, t.length ≤ 64 := fun t hh => ht t (by simp [hh])
      exact .inr ⟨hq, .inl ⟨a, b, o, i, xa, xb, rfl, hi, hw, (write_fn KX st n a 1 xa h1 (by omega) ta).mono (by omega), (write_fn KX st n b 1 xb h2 (by omega) tb).mono (by omega), hx, B a (by omega) _ (wr_len _ _ _ _ h1 ta), B b (by omega) _ (wr_len _ _ _ _ h2 tb)⟩⟩
    · refine .inr ⟨hq, .inr ⟨hw, operand_fn KX st (2 * n + 2) (by omega) part k x hl (by omega) ?_⟩⟩
      rcases HK with ⟨t, rfl, ha, hx⟩ | ⟨m, xm, rfl, h1, hx⟩
      · exact .inl ⟨t, rfl, ha, by have := ht t (by simp); omega, hx⟩
      · have hlen : (nots k ++ tk "(" :: (m ++ [tk ")"])).length = k + (m.length + 2) := by simp [nots]
        have tm : ∀ t ∈ m, t.length ≤ 64 := fun t hh => ht t (by simp [hh])
        exact .inr ⟨m, xm, rfl, write_fn KX st n m (-1) xm h1 (by omega) tm, B m (by omega) _ (wr_len _ _ _ _ h1 tm), hx⟩
end Mine
open PySem PySem.W PyProof.Rows PyProof PySem.NumText
namespace Mine
/-- numbers of any length: the noughts ahead fall, the rest is the number's text -/
theorem stripL_eq : ∀ cs : List Nat, cs ≠ [] → stripL cs = (match cs.dropWhile (· == 48) with | [] => [48] | c :: r => c :: r)
  | [], h => absurd rfl h
  | [c], _ => by
    by_cases e : c = 48
    · subst e; rfl
    · rw [List.dropWhile_cons, if_neg (by rw [beq_iff_eq]; exact e)]; rfl
  | c :: d :: r, _ => by
    by_cases e : c = 48
    · subst e
      rw [List.dropWhile_cons, if_pos (by decide), show stripL (48 :: d :: r) = stripL (d :: r) from if_pos rfl]
      exact stripL_eq (d :: r) (by simp)
    · rw [List.dropWhile_cons, if_neg (by rw [beq_iff_eq]; exact e), show stripL (c :: d :: r) = c :: d :: r from if_neg e]
theorem ofNat_digit {cs : List Nat} (h : AllDigits cs) : (cs.map Char.ofNat).map Char.toNat = cs := by
  rw [List.map_map]
  refine List.map_congr_left (g := id) (fun c hc => ?_) |>.trans (List.map_id _)
  have := h c hc
  have all : ∀ c : _root_.Fin 10, (Char.ofNat (48 + c.val)).toNat = 48 + c.val := by decide
  have := all ⟨c - 48, by omega⟩
  dsimp only at this
  show (Char.ofNat c).toNat = c
  rw [show 48 + (c - 48) = c by omega] at this
  exact this
theorem dropWhile_digits' {cs : List Nat} (h : AllDigits cs) : AllDigits (cs.dropWhile (· == 48)) := fun c hc => h c ((List.dropWhile_sublist _).subset hc)
theorem dec_num {t : Str} (h : AllDigits t.cps.toList) (hne : t.cps.toList ≠ []) : dec ((digitsVal t.cps.toList : Nat) : Int) = num t := by
  have e1 : (dec ((digitsVal t.cps.toList : Nat) : Int)).cps.toList = stripL t.cps.toList := by
    unfold dec
    rw [KIN.signs_num, toDigits_all _ h, stripL_eq _ hne]
    have hd := dropWhile_digits' h
    cases hw : t.cps.toList.dropWhile (· == 48) with
    | nil => decide
    | cons c r => rw [hw] at hd; exact ofNat_digit hd
  have e2 : (num t).cps.toList = stripL t.cps.toList := rfl
  cases hd : dec ((digitsVal t.cps.toList : Nat) : Int) with
  | mk a =>
    cases hn : num t with
    | mk b =>
      rw [hd] at e1; rw [hn] at e2
      have : a = b := Array.toList_inj.mp (e1.trans e2.symm)
      rw [this]
theorem digit_uni {c : Nat} (h : 48 ≤ c ∧ c ≤ 57) : Unicode.isDigit c = true := by
  have all : ∀ c : _root_.Fin 10, Unicode.isDigit (48 + c.val) = true := by decide +kernel
  have := all ⟨c - 48, by omega⟩
  dsimp only at this
  rw [show 48 + (c - 48) = c by omega] at this
  exact this
theorem digitsVal_lt : ∀ cs : List Nat, AllDigits cs → digitsVal cs < 10 ^ cs.length := by
  have key : ∀ n (cs : List Nat), cs.length = n → AllDigits cs → digitsVal cs < 10 ^ cs.length := by
    intro n
    induction n with
    | zero => intro cs h _; rw [List.length_eq_zero_iff.mp h]; decide
    | succ n ih =>
      intro cs h hd
      obtain ⟨ini, c, rfl⟩ : ∃ ini c, cs = ini ++ [c] := by
        rcases List.eq_nil_or_concat cs with rfl | ⟨i, c, rfl⟩
        · cases h
        · exact ⟨i, c, by simp⟩
      have hl : ini.length = n := by simpa using h
      have h1 := ih ini hl fun d hd' => hd d (by simp [hd'])
      have h2 := hd c (by simp)
      rw [digitsVal_snoc, List.length_append, List.length_singleton, Nat.pow_succ]
      omega
  exact fun cs h => key cs.length cs rfl h
/-- what a token of a row is known by -/
structure Ok1 (t : Str) : Prop where
  tok : Tok t
  len : t.length ≤ 64
  val : ∀ n, PySem.intText? t = some n → 0 ≤ n ∧ n < 10 ^ 64 ∧ (dec n).length ≤ 64
  ok : PyData.strOk t = true
theorem digits_ok {t : Str} (h : AllDigits t.cps.toList) (hne : t.cps.toList ≠ []) (hl : t.length ≤ 64) : Ok1 t ∧ Txt.isdigit t = true := by
  have hi := intText_digits h hne (by omega : t.length ≤ 4300)
  have hlen : t.cps.toList.length = t.length := Array.length_toList
  have hd : Txt.isdigit t = true := by
    unfold Txt.isdigit
    rw [Bool.and_eq_true, ← Array.all_toList, List.all_eq_true]
    refine ⟨?_, fun c hc => digit_uni (h c hc)⟩
    have := List.length_pos_iff.mpr hne
    rw [hlen] at this
    exact decide_eq_true this
  refine ⟨⟨⟨by rw [hd, hi]; rfl, fun n hn => ?_⟩, hl, fun n hn => ?_, ?_⟩, hd⟩
  · rw [hi] at hn; injection hn with hn; subst hn; exact dec_num h hne
  · rw [hi] at hn; injection hn with hn; subst hn
    refine ⟨Int.natCast_nonneg _, ?_, ?_⟩
    · have h1 := digitsVal_lt _ h
      have h2 : 10 ^ t.cps.toList.length ≤ 10 ^ 64 := Nat.pow_le_pow_right (by decide) (by omega)
      have h3 : digitsVal t.cps.toList < 10 ^ 64 := Nat.lt_of_lt_of_le h1 h2
      exact_mod_cast h3
    · rw [dec_num h hne]
      have h1 : (stripL t.cps.toList).length ≤ t.cps.toList.length := by
        have : ∀ l : List Nat, (stripL l).length ≤ l.length := by
          intro l
          induction l with
          | nil => exact Nat.le_refl _
          | cons a r ih =>
            cases r with
            | nil => exact Nat.le_refl _
            | cons b r =>
              unfold stripL; split
              · simp only [List.length_cons] at ih ⊢; omega
              · exact Nat.le_refl _
        exact this _
      show (stripL t.cps.toList).toArray.size ≤ 64
      rw [List.size_toArray]; omega
  · unfold PyData.strOk
    rw [← Array.all_toList, List.all_eq_true]
    intro c hc
    have := h c hc
    exact decide_eq_true (by omega)
theorem dec_digits (m : Nat) : AllDigits (dec (m : Int)).cps.toList ∧ (dec (m : Int)).cps.toList ≠ [] := by
  unfold dec
  rw [KIN.signs_num]
  constructor
  · intro c hc
    obtain ⟨ch, hch, e⟩ := List.mem_map.mp hc
    have r := digit_range (Nat.isDigit_of_mem_toDigits (by decide) (by decide) hch)
    rw [← e]; exact r
  · intro e
    have := List.map_eq_nil_iff.mp e
    have h := toDigits_len_ge 10 m
    rw [this] at h
    exact absurd h (by decide)
/-- a number of up to thirty figures with up to two noughts ahead -/
theorem big_ok {a b : Int} (ha : 0 ≤ a) (ha' : a < 3) (hb : 0 ≤ b) (hb' : b < 10 ^ 30) : Ok1 (Txt.mul (tk "0") a ++ dec b) ∧ Txt.isdigit (Txt.mul (tk "0") a ++ dec b) = true := by
  obtain ⟨m, rfl⟩ := Int.eq_ofNat_of_zero_le hb
  have hm := dec_digits m
  have hz : ∀ a : _root_.Fin 3, (∀ c ∈ (Txt.mul (tk "0") (a.val : Int)).cps.toList, c = 48) ∧ (Txt.mul (tk "0") (a.val : Int)).length ≤ 2 := by decide +kernel
  have hza := hz ⟨a.toNat, by omega⟩
  dsimp only at hza
  rw [Int.toNat_of_nonneg ha] at hza
  have hdl : (dec (m : Int)).length ≤ 30 := by
    have : (dec (m : Int)).cps.toList.length = (dec (m : Int)).length := Array.length_toList
    rw [← this]
    unfold dec
    rw [KIN.signs_num, List.length_map]
    exact digits10_le (by decide) (by exact_mod_cast hb')
  refine digits_ok ?_ ?_ ?_
  · rw [Str.cps_append, Array.toList_append]
    intro c hc
    rcases List.mem_append.mp hc with h | h
    · have := hza.1 c h; omega
    · exact hm.1 c h
  · rw [Str.cps_append, Array.toList_append]
    intro e
    exact hm.2 (List.append_eq_nil_iff.mp e).2
  · rw [Str.length_append]; omega
end Mine
namespace Mine
local macro_rules | `(tactic| walk_at "loc") => `(tactic| first | with_reducible exact Loc.head | (with_reducible apply Loc.tail; walk_at "loc"))
local macro_rules | `(tactic| walk_at "locd") => `(tactic| first | exact Loc.head | (with_reducible apply Loc.tail; walk_at "locd"))
local macro_rules | `(tactic| walk_at "upd") => `(tactic| first | with_reducible exact Upd.head | (with_reducible apply Upd.tail; walk_at "upd"))
theorem OP2.pow_int {c : Cfg} {a b : Int} (hb : 0 < b) (ha : 1 < a) (hs : ¬ Builtin.Int.intTooBig (((Builtin.Int.intBits a : Nat) : Int) * b) = true) : OP2 c (binaryOp .Pow) (.int a) (.int b) (.int (a ^ b.toNat)) := .of fun s g v₁ v₂ Q E _ h1 h2 q => by
  cases h1; cases h2
  refine PySem.AutoIntOps.pow_4 (by omega) (by simp; omega) (by simp; omega) (by simp; omega) hs ?_
  exact q _ _ (.int _ _)
/-- the wrong tokens -/
noncomputable def wr8 : List Str := [tk ")", tk "*", tk "?", tk ":", tk "==", tk "xy", tk "0x1", tk ""]
noncomputable def wr10 : List Str := [tk ")", tk ":", tk "n", tk "7", tk "!", tk "(", tk "xy", tk "", tk "=", tk "nn"]
noncomputable def rtok (row opened : List Str) (x : Int) : Str × List Str :=
  if due row = true then
    if x.fmod 16 < 5 then (tk "n", opened)
    else if x.fmod 16 < 9 then (Txt.mul (tk "0") ((x.fdiv 2080).fmod 3) ++ dec ((x.fdiv 16).fmod (if x.fmod 16 = 8 then 10 ^ 30 else 130)), opened)
    else if x.fmod 16 < 13 then (tk "(", opened ++ [tk "("])
    else if x.fmod 16 < 15 then (tk "!", opened)
    else ((wr8[((x.fdiv 16).fmod 8).toNat]?).getD (tk "n"), [])
  else
    if x.fmod 32 < 19 then ((fOps[(x.fmod 32).toNat]?).getD (tk "n"), opened)
    else if x.fmod 32 < 23 then (tk "?", opened ++ [tk "?"])
    else if x.fmod 32 < 29 ∧ opened ≠ [] then (if opened.getLast? = some (tk "(") then tk ")" else tk ":", opened.dropLast)
    else if x.fmod 32 < 29 then ((fOps[((x.fdiv 32).fmod 19).toNat]?).getD (tk "n"), opened)
    else ((wr10[((x.fdiv 32).fmod 10).toNat]?).getD (tk "n"), [])
noncomputable def rstep (p : List Str × List Str) (x : Int) : List Str × List Str := (p.1 ++ [(rtok p.1 p.2 x).1], (rtok p.1 p.2 x).2)
noncomputable def row01 (cells : List Int) : List Str := closeUp (cells.foldl rstep ([], [])) ++ [tk ""]
noncomputable def fixed1 : List Str := fixed ++ [tk "xy", tk "0x1", tk "=", tk "nn"]
noncomputable def ok1B (t : Str) : Bool := decide (t.length ≤ 64) && PyData.strOk t && (match PySem.intText? t with
    | none => !Txt.isdigit t
    | some n => Txt.isdigit t && decide (0 ≤ n) && decide (n < 10 ^ 64) && decide ((dec n).length ≤ 64) && (dec n == num t))
theorem Ok1.of {t : Str} (h : ok1B t = true) : Ok1 t := by
  unfold ok1B at h
  simp only [Bool.and_eq_true] at h
  obtain ⟨⟨h1, h2⟩, h3⟩ := h
  refine ⟨⟨?_, fun n hi => ?_⟩, of_decide_eq_true h1, fun n hi => ?_, h2⟩
  · cases hi : PySem.intText? t with
    | none => rw [hi] at h3; simpa using h3
    | some n => rw [hi] at h3; simp only [Bool.and_eq_true] at h3; simpa using h3.1.1.1.1
  · rw [hi] at h3; simp only [Bool.and_eq_true] at h3
    exact eq_of_beq h3.2
  · rw [hi] at h3; simp only [Bool.and_eq_true, decide_eq_true_eq] at h3
    exact ⟨h3.1.1.1.2, h3.1.1.2, h3.1.2⟩
theorem fixed1_ok : ∀ t ∈ fixed1, Ok1 t := fun t ht => Ok1.of (by
  have all : ∀ t ∈ fixed1, ok1B t = true := by unfold fixed1 fixed; decide +kernel
  exact all t ht)
theorem getD_ok {l : List Str} (hl : ∀ t ∈ l, t ∈ fixed1) (k : Nat) : Ok1 ((l[k]?).getD (tk "n")) := by
  cases h : l[k]? with
  | none => exact fixed1_ok _ (by show tk "n" ∈ fixed1; decide +kernel)
  | some t => exact fixed1_ok t (hl t (List.mem_of_getElem? h))
theorem rtok_ok (row opened : List Str) (x : Int) : Ok1 (rtok row opened x).1 ∧ (rtok row opened x).2.length ≤ opened.length + 1 := by
  have f : ∀ {t : Str}, t ∈ fixed1 → Ok1 t := fun h => fixed1_ok _ h
  have w8 : ∀ t ∈ wr8, t ∈ fixed1 := by unfold wr8; decide +kernel
  have w10 : ∀ t ∈ wr10, t ∈ fixed1 := by unfold wr10; decide +kernel
  have wo : ∀ t ∈ fOps, t ∈ fixed1 := by unfold fOps; decide +kernel
  have r16 := fmod_range x (m := 16) (by decide)
  unfold rtok
  split
  · split
    · exact ⟨f (t := tk "n") (by decide +kernel), by simp⟩
    · split
      · refine ⟨(big_ok (fmod_range (x.fdiv 2080) (m := 3) (by decide)).1 (fmod_range (x.fdiv 2080) (m := 3) (by decide)).2 ?_ ?_).1, by simp⟩
        · split
          · exact (fmod_range (x.fdiv 16) (m := 10 ^ 30) (by decide)).1
          · exact (fmod_range (x.fdiv 16) (m := 130) (by decide)).1
        · split
          · exact (fmod_range (x.fdiv 16) (m := 10 ^ 30) (by decide)).2
          · exact Int.lt_trans (fmod_range (x.fdiv 16) (m := 130) (by decide)).2 (by decide)
      · split
        · exact ⟨f (t := tk "(") (by decide +kernel), by simp⟩
        · split
          · exact ⟨f (t := tk "!") (by decide +kernel), by simp⟩
          · exact ⟨getD_ok w8 _, by simp⟩
  · split
    · exact ⟨getD_ok wo _, by simp⟩
    · split
      · exact ⟨f (t := tk "?") (by decide +kernel), by simp⟩
      · split
        · refine ⟨?_, by simp; omega⟩
          show Ok1 (if _ then _ else _)
          split
          · exact f (by decide +kernel)
          · exact f (by decide +kernel)
        · split
          · exact ⟨getD_ok wo _, by simp⟩
          · exact ⟨getD_ok w10 _, by simp⟩
theorem rfold_ok : ∀ (cells : List Int) (p : List Str × List Str), (∀ t ∈ p.1, Ok1 t) → p.2.length ≤ p.1.length →
    (∀ t ∈ (cells.foldl rstep p).1, Ok1 t) ∧ (cells.foldl rstep p).1.length = p.1.length + cells.length ∧ (cells.foldl rstep p).2.length ≤ p.1.length + cells.length
  | [], p, h, hl => ⟨h, by simp, by simpa using hl⟩
  | x :: r, p, h, hl => by
    have hr := rtok_ok p.1 p.2 x
    obtain ⟨h1, h2, h3⟩ := rfold_ok r (rstep p x) (fun t ht => by
      rcases List.mem_append.mp ht with q | q
      · exact h t q
      · rw [List.mem_singleton.mp q]; exact hr.1) (by
        show (rtok p.1 p.2 x).2.length ≤ (p.1 ++ [_]).length
        simp only [List.length_append, List.length_singleton]; omega)
    have e : (rstep p x).1.length = p.1.length + 1 := by show (p.1 ++ [_]).length = _; simp
    rw [e] at h2 h3
    rw [List.foldl_cons, List.length_cons]
    exact ⟨h1, by omega, by omega⟩
theorem row01_ok (cells : List Int) : (∀ t ∈ row01 cells, Ok1 t) ∧ (row01 cells).length ≤ 3 * cells.length + 2 := by
  obtain ⟨h1, h2, h3⟩ := rfold_ok cells ([], []) (fun t ht => by cases ht) (Nat.le_refl _)
  have hc := closers_len (cells.foldl rstep ([], [])).2.reverse
  simp only [List.length_nil, Nat.zero_add, List.length_reverse] at h2 h3 hc
  unfold row01 closeUp
  refine ⟨fun t ht => ?_, ?_⟩
  · rcases List.mem_append.mp ht with h | h
    · rcases List.mem_append.mp h with h | h
      · exact h1 t h
      · rcases List.mem_append.mp h with h | h
        · split at h
          · rw [List.mem_singleton.mp h]; exact fixed1_ok _ (by decide +kernel)
          · cases h
        · have all : ∀ t ∈ [tk "n", tk ")", tk ":"], t ∈ fixed1 := by decide +kernel
          exact fixed1_ok _ (all t (closers_gd _ t h))
    · rw [List.mem_singleton.mp h]; exact fixed1_ok _ (by decide +kernel)
  · simp only [List.length_append, List.length_singleton]
    have : (if due (cells.foldl rstep ([], [])).1 = true then [tk "n"] else []).length ≤ 1 := by split <;> simp
    omega
end Mine
namespace Mine
local macro_rules | `(tactic| walk_at "loc") => `(tactic| first | with_reducible exact Loc.head | (with_reducible apply Loc.tail; walk_at "loc"))
local macro_rules | `(tactic| walk_at "locd") => `(tactic| first | exact Loc.head | (with_reducible apply Loc.tail; walk_at "locd"))
local macro_rules | `(tactic| walk_at "upd") => `(tactic| first | with_reducible exact Upd.head | (with_reducible apply Upd.tail; walk_at "upd"))
noncomputable abbrev sigF (cells : List Int) (row opened : AV) (x kind token size : AV) : Sig :=
  [(tk "cells", .val (.list (cells.map .int))), (tk "operations", .val (.list (fOps.map .str))), (tk "row", row), (tk "opened", opened), (tk "x", x), (tk "kind", kind), (tk "token", token), (tk "size", size)]
theorem wr8_at (k : Nat) (hk : k < 8) : ∃ t, wr8[k]? = some t := ⟨_, List.getElem?_eq_getElem (by show k < 8; exact hk)⟩
theorem wr10_at (k : Nat) (hk : k < 10) : ∃ t, wr10[k]? = some t := ⟨_, List.getElem?_eq_getElem (by show k < 10; exact hk)⟩
set_option maxHeartbeats 4000000 in
theorem row_fn {w : World} {h₁ : Heap} {mg mb : Str → Option Value} (KX : (hd.heap_39 w.params).In h₁) (st : Stat h₁ mg mb) (cells : List Int) (hn : cells.length ≤ 40) : FN prg w h₁ 106 2 [.list (cells.map .int)] (dstrs (row01 cells)) := by
  refine FN.of_body (params := [tk "cells"]) (names := [tk "operations", tk "row", tk "opened", tk "x", tk "kind", tk "token", tk "size"]) st (KX 106 _ rfl) rfl (codeRec_of KX rfl) rfl rfl rfl rfl rfl (bind_one fun _ => rfl) (by decide) (by decide) (by decide) rfl rfl rfl ?_
  intro c ok is hs hdp hun
  have ev := ok.toEv
  have g_due : GL c "_law_due" (some (.ref 99)) := GL.of is hs rfl rfl ((glob_at KX st.g rfl rfl _).trans rfl)
  have g_str : GL c "str" none := GL.of is hs rfl rfl ((glob_at KX st.g rfl rfl _).trans rfl)
  have is_due : IsFn h₁ 99 := ⟨_, _, KX 99 _ rfl, rfl⟩
  have L0 : (Str.ofString "0").length = 1 := by decide +kernel
  show SX c _ [(tk "cells", .val (.list (cells.map .int))), (tk "operations", .un), (tk "row", .un), (tk "opened", .un), (tk "x", .un), (tk "kind", .un), (tk "token", .un), (tk "size", .un)] _ _
  with_reducible refine SX.assign (d := .list (fOps.map .str)) (σ' := sigF cells .un .un .un .un .un .un) ok ?_ ?_ ?_ ?_
  · refine EV.list ?_ ?_
    · exact EVs.texts rfl
    · decide +kernel
  · walk_at "upd"
  · rfl
  refine SX.newlist ok .nil (by simp) (by walk_at "upd") ?_
  refine SX.newlist ok .nil (by simp) (by walk_at "upd") ?_
  have hdue : ∀ (r : List Str) (opened x kind token size : AV) (p p' p'' : Pos), r.length ≤ 1000 → EVB c (sigF cells (.own (r.map .str)) opened x kind token size) (.Call (.Name "_law_due" p) [.Name "row" p'] [] p'') (due r) := fun r opened x kind token size p p' p'' hr =>
    EVB.frozen (x := tk "row") (σ' := sigF cells (.val (.list (r.map .str))) opened x kind token size) (by walk_at "loc") (by walk_at "upd") (EVB.of_bool (EV.call ev is g_due is_due (EVs.cN (EV.name ev (d := .list (r.map .str)) (by walk_at "loc")) .nil) (due_fn KX st r hr) (by omega) (by omega)) rfl)
  refine SX.forIn ok (ds := cells.map .int) (fun i σ => ∃ (r o : List Str) (vx vk vt vz : AV), σ = sigF cells (.own (r.map .str)) (.own (o.map .str)) vx vk vt vz ∧ (cells.take i).foldl rstep ([], []) = (r, o))
    (IT.list ev (EV.name ev (by walk_at "loc"))) ⟨[], [], _, _, _, _, rfl, rfl⟩ ?_ ?_ (fun _ => rfl)
  · rintro i dd σ₁ hd ⟨r, o, vx, vk, vt, vz, rfl, hinv⟩
    rw [List.getElem?_map, Option.map_eq_some_iff] at hd
    obtain ⟨x, hx, rfl⟩ := hd
    have hi : i < cells.length := (List.getElem?_eq_some_iff.mp hx).1
    have hI := rfold_ok (cells.take i) ([], []) (fun t ht => by cases ht) (Nat.le_refl _)
    rw [hinv] at hI
    obtain ⟨_, hrl, hol⟩ := hI
    simp only [List.length_take, List.length_nil, Nat.zero_add] at hrl hol
    have htake : cells.take (i + 1) = cells.take i ++ [x] := by rw [List.take_add_one, hx]; rfl
    have hnext : (cells.take (i + 1)).foldl rstep ([], []) = (r ++ [(rtok r o x).1], (rtok r o x).2) := by
      rw [htake, List.foldl_append, hinv]; rfl
    have r16 := fmod_range x (m := 16) (by decide)
    have r32 := fmod_range x (m := 32) (by decide)
    have r3 := fmod_range (x.fdiv 2080) (m := 3) (by decide)
    refine ⟨sigF cells (.own (r.map .str)) (.own (o.map .str)) (.val (.int x)) vk vt vz, by walk_at "upd", ?_⟩
    refine SX.join (fun σ => ∃ vk vz, σ = sigF cells (.own (r.map .str)) (.own ((rtok r o x).2.map .str)) (.val (.int x)) vk (.val (.str (rtok r o x).1)) vz) (hdue r _ _ _ _ _ _ _ _ (by omega)) (fun hb => ?_) (fun hb => ?_) ?_
    · refine SX.assign ok (EV.binop (EV.name ev (by walk_at "loc")) EV.const_int (OP2.mod_int (by decide))) (by walk_at "upd") rfl ?_
      refine SX.ite (EVB.compare (b := decide (x.fmod 16 < 5)) (EV.name ev (by walk_at "loc")) EV.const_int OP2.lt_int rfl) (fun h1 => ?_) (fun h1 => ?_)
      · have e : rtok r o x = (tk "n", o) := by unfold rtok; rw [if_pos hb, if_pos (by simpa using h1)]
        rw [e]
        refine SX.assign ok EV.const_str (by walk_at "upd") rfl ?_
        exact SX.nil (SX.nil ⟨_, _, rfl⟩)
      have h1 : ¬ x.fmod 16 < 5 := by simpa using h1
      refine SX.ite (EVB.compare (b := decide (x.fmod 16 < 9)) (EV.name ev (by walk_at "loc")) EV.const_int OP2.lt_int rfl) (fun h2 => ?_) (fun h2 => ?_)
      · have e : rtok r o x = (Txt.mul (tk "0") ((x.fdiv 2080).fmod 3) ++ dec ((x.fdiv 16).fmod (if x.fmod 16 = 8 then 10 ^ 30 else 130)), o) := by unfold rtok; rw [if_pos hb, if_neg h1, if_pos (by simpa using h2)]
        have hok := (rtok_ok r o x).1.len
        rw [e] at hok ⊢
        dsimp only at hok
        rw [Str.length_append] at hok
        have hok : (Txt.mul (Str.ofString "0") ((x.fdiv 2080).fmod 3)).length + (dec ((x.fdiv 16).fmod (if x.fmod 16 = 8 then 10 ^ 30 else 130))).length ≤ 64 := hok
        refine SX.assign ok EV.const_int (by walk_at "upd") rfl ?_
        refine SX.join (fun σ => σ = sigF cells (.own (r.map .str)) (.own (o.map .str)) (.val (.int x)) (.val (.int (x.fmod 16))) vt (.val (.int (if x.fmod 16 = 8 then 10 ^ 30 else 130)))) (b := x.fmod 16 == 8) (EVB.compare (EV.name ev (by walk_at "loc")) EV.const_int OP2.eq_int rfl) (fun h3 => ?_) (fun h3 => ?_) ?_
        · rw [if_pos (by simpa using h3)]
          refine SX.assign (d := .int (10 ^ 30)) ok (EV.cast (EV.binop EV.const_int EV.const_int (OP2.pow_int (by decide) (by decide) (by decide +kernel))) (by rfl)) (by walk_at "upd") rfl ?_
          exact SX.nil rfl
        · rw [if_neg (by simpa using h3)]
          exact SX.nil rfl
        rintro σ₂ rfl
        generalize hsz : (if x.fmod 16 = 8 then (10 ^ 30 : Int) else 130) = sz at hok ⊢
        have hsz0 : 0 < sz ∧ sz ≤ 10 ^ 30 := by rw [← hsz]; split <;> decide
        have rsz := fmod_range (x.fdiv 16) (m := sz) hsz0.1
        refine SX.assign ok (EV.binop (EV.binop EV.const_str (EV.binop (EV.binop (EV.name ev (by walk_at "loc")) EV.const_int (OP2.floordiv_int (by decide) (by decide))) EV.const_int (OP2.mod_int (by decide))) (OP2.mul_str r3.1 (by omega) (by omega))) (EV.str_int ev g_str (EVs.cB (EV.binop (EV.binop (EV.name ev (by walk_at "loc")) EV.const_int (OP2.floordiv_int (by decide) (by decide))) (EV.name ev (by walk_at "loc")) (OP2.mod_int (by omega))) .nil) (by
          have h4 : ((x.fdiv 16).fmod sz).natAbs < 2 ^ 1000 := by
            have h5 : ((x.fdiv 16).fmod sz).natAbs < 10 ^ 30 := by omega
            exact Nat.lt_trans h5 (by decide)
          by_cases h0 : ((x.fdiv 16).fmod sz).natAbs = 0
          · rw [h0]; decide
          · exact Nat.lt_trans ((Nat.log2_lt h0).mpr h4) (by decide))) (OP2.add_str (by omega))) (by walk_at "upd") rfl ?_
        exact SX.nil (SX.nil (SX.nil ⟨_, _, rfl⟩))
      have h2 : ¬ x.fmod 16 < 9 := by simpa using h2
      refine SX.ite (EVB.compare (b := decide (x.fmod 16 < 13)) (EV.name ev (by walk_at "loc")) EV.const_int OP2.lt_int rfl) (fun h3 => ?_) (fun h3 => ?_)
      · have e : rtok r o x = (tk "(", o ++ [tk "("]) := by unfold rtok; rw [if_pos hb, if_neg h1, if_neg h2, if_pos (by simpa using h3)]
        rw [e]
        refine SX.assign ok EV.const_str (by walk_at "upd") rfl ?_
        refine SX.append ok (by walk_at "loc") (EV.name ev (by walk_at "loc")) (by walk_at "upd") (by simp; omega) rfl rfl rfl ?_
        exact SX.nil (SX.nil (SX.nil (SX.nil ⟨_, _, by show _ = sigF _ _ _ _ _ _ _; rw [List.map_append]; rfl⟩)))
      have h3 : ¬ x.fmod 16 < 13 := by simpa using h3
      refine SX.ite (EVB.compare (b := decide (x.fmod 16 < 15)) (EV.name ev (by walk_at "loc")) EV.const_int OP2.lt_int rfl) (fun h4 => ?_) (fun h4 => ?_)
      · have e : rtok r o x = (tk "!", o) := by unfold rtok; rw [if_pos hb, if_neg h1, if_neg h2, if_neg h3, if_pos (by simpa using h4)]
        rw [e]
        refine SX.assign ok EV.const_str (by walk_at "upd") rfl ?_
        exact SX.nil (SX.nil (SX.nil (SX.nil (SX.nil ⟨_, _, rfl⟩))))
      have h4 : ¬ x.fmod 16 < 15 := by simpa using h4
      have r8 := fmod_range (x.fdiv 16) (m := 8) (by decide)
      obtain ⟨t, ht⟩ := wr8_at ((x.fdiv 16).fmod 8).toNat (by omega)
      have e : rtok r o x = (t, []) := by unfold rtok; rw [if_pos hb, if_neg h1, if_neg h2, if_neg h3, if_neg h4, ht]; rfl
      rw [e]
      have hl8 : wr8.length = 8 := rfl
      with_reducible refine SX.assign (d := .str t) (σ' := sigF cells (.own (r.map .str)) (.own (o.map .str)) (.val (.int x)) (.val (.int (x.fmod 16))) (.val (.str t)) vz) ok ?_ ?_ ?_ ?_
      · refine EV.item (ds := wr8.map .str) (j := (x.fdiv 16).fmod 8) ?_ ?_ ?_ ?_ ?_ ?_ ?_
        · refine EV.list ?_ ?_
          · exact EVs.texts rfl
          · decide +kernel
        · exact EV.binop (EV.binop (EV.name ev (by walk_at "loc")) EV.const_int (OP2.floordiv_int (by decide) (by decide))) EV.const_int (OP2.mod_int (by decide))
        · omega
        · simp; omega
        · simp; omega
        · unfold idx; rw [if_neg (by omega), List.getElem?_map, ht]; rfl
        · exact fun _ _ => rfl
      · walk_at "upd"
      · rfl
      refine SX.newlist ok .nil (by simp) (by walk_at "upd") ?_
      exact SX.nil (SX.nil (SX.nil (SX.nil (SX.nil ⟨_, _, rfl⟩))))
    · have hb' : ¬ due r = true := by rw [hb]; decide
      refine SX.assign ok (EV.binop (EV.name ev (by walk_at "loc")) EV.const_int (OP2.mod_int (by decide))) (by walk_at "upd") rfl ?_
      have hfl : fOps.length = 19 := rfl
      refine SX.ite (EVB.compare (b := decide (x.fmod 32 < 19)) (EV.name ev (by walk_at "loc")) EV.const_int OP2.lt_int rfl) (fun h1 => ?_) (fun h1 => ?_)
      · have h1 : x.fmod 32 < 19 := by simpa using h1
        obtain ⟨t, ht, _, _⟩ := fOps_ok (x.fmod 32).toNat (by omega)
        have e : rtok r o x = (t, o) := by unfold rtok; rw [if_neg hb', if_pos h1, ht]; rfl
        rw [e]
        refine SX.assign ok (EV.item (EV.name ev (by walk_at "loc")) (EV.name ev (by walk_at "loc")) (by omega) (by simp; omega) (by simp; omega) (d := .str t) (by
          unfold idx; rw [if_neg (by omega), List.getElem?_map, ht]; rfl) (fun _ _ => rfl)) (by walk_at "upd") rfl ?_
        exact SX.nil (SX.nil ⟨_, _, rfl⟩)
      have h1 : ¬ x.fmod 32 < 19 := by simpa using h1
      refine SX.ite (EVB.compare (b := decide (x.fmod 32 < 23)) (EV.name ev (by walk_at "loc")) EV.const_int OP2.lt_int rfl) (fun h2 => ?_) (fun h2 => ?_)
      · have e : rtok r o x = (tk "?", o ++ [tk "?"]) := by unfold rtok; rw [if_neg hb', if_neg h1, if_pos (by simpa using h2)]
        rw [e]
        refine SX.assign ok EV.const_str (by walk_at "upd") rfl ?_
        refine SX.append ok (by walk_at "loc") (EV.name ev (by walk_at "loc")) (by walk_at "upd") (by simp; omega) rfl rfl rfl ?_
        exact SX.nil (SX.nil (SX.nil ⟨_, _, by show _ = sigF _ _ _ _ _ _ _; rw [List.map_append]; rfl⟩))
      have h2 : ¬ x.fmod 32 < 23 := by simpa using h2
      refine SX.ite (EVB.and (b := decide (x.fmod 32 < 29)) (b' := !(o.map D.str).isEmpty) (EVB.compare (EV.name ev (by walk_at "loc")) EV.const_int OP2.lt_int rfl) fun _ => EVB.and1 (EVB.frozen (x := tk "opened") (σ' := sigF cells (.own (r.map .str)) (.val (.list (o.map .str))) (.val (.int x)) (.val (.int (x.fmod 32))) vt vz) (by walk_at "loc") (by walk_at "upd") (EVB.compare (EV.name ev (by walk_at "loc")) (EV.list .nil (by simp)) (OP2.ne_nil ev) rfl))) (fun h3 => ?_) (fun h3 => ?_)
      · rw [Bool.and_eq_true] at h3
        have hne : o ≠ [] := fun e => by subst e; simp at h3
        have h3' : x.fmod 32 < 29 ∧ o ≠ [] := ⟨of_decide_eq_true h3.1, hne⟩
        refine SX.assign ok EV.const_str (by walk_at "upd") rfl ?_
        have e : rtok r o x = (if o.getLast? = some (tk "(") then tk ")" else tk ":", o.dropLast) := by unfold rtok; rw [if_neg hb', if_neg h1, if_neg h2, if_pos h3']
        rw [e]
        obtain ⟨o', y, rfl⟩ : ∃ o' y, o = o' ++ [y] := ⟨o.dropLast, o.getLast hne, (List.dropLast_concat_getLast hne).symm⟩
        have hol' : o'.length < 1000 := by simp at hol; omega
        rw [List.dropLast_concat, show (o' ++ [y]).getLast? = some y by simp]
        refine SX.iteX (b := y == tk "(") (EXB.cmpX (d₁ := .str y) (σ₁ := sigF cells (.own (r.map .str)) (.own (o'.map .str)) (.val (.int x)) (.val (.int (x.fmod 32))) (.val (.str (tk ":"))) vz) (EX.pop (ds := o'.map .str) ev (by
            rw [List.map_append]; exact Loc.tail (Loc.tail (Loc.tail Loc.head))) (by rw [List.map_append]; exact Upd.tail (Upd.tail (Upd.tail Upd.head))) (by simp; omega) rfl) EV.const_str OP2.eq_str rfl) (fun h4 => ?_) (fun h4 => ?_)
        · refine SX.assign ok EV.const_str (by walk_at "upd") rfl ?_
          exact SX.nil (SX.nil (SX.nil (SX.nil (SX.nil ⟨_, _, by rw [if_pos (by rw [eq_of_beq h4])]⟩))))
        · exact SX.nil (SX.nil (SX.nil (SX.nil (SX.nil ⟨_, _, by rw [if_neg fun k => ne_of_beq h4 (Option.some.inj k)]⟩))))
      have h3 : ¬ (x.fmod 32 < 29 ∧ o ≠ []) := fun k => by
        rw [decide_eq_true k.1, Bool.true_and] at h3
        cases o with
        | nil => exact k.2 rfl
        | cons _ _ => simp at h3
      refine SX.ite (EVB.compare (b := decide (x.fmod 32 < 29)) (EV.name ev (by walk_at "loc")) EV.const_int OP2.lt_int rfl) (fun h4 => ?_) (fun h4 => ?_)
      · have r19 := fmod_range (x.fdiv 32) (m := 19) (by decide)
        obtain ⟨t, ht, _, _⟩ := fOps_ok ((x.fdiv 32).fmod 19).toNat (by omega)
        have e : rtok r o x = (t, o) := by unfold rtok; rw [if_neg hb', if_neg h1, if_neg h2, if_neg h3, if_pos (by simpa using h4), ht]; rfl
        rw [e]
        refine SX.assign ok (EV.item (EV.name ev (by walk_at "loc")) (EV.binop (EV.binop (EV.name ev (by walk_at "loc")) EV.const_int (OP2.floordiv_int (by decide) (by decide))) EV.const_int (OP2.mod_int (by decide))) (by omega) (by simp; omega) (by simp; omega) (d := .str t) (by
          unfold idx; rw [if_neg (by omega), List.getElem?_map, ht]; rfl) (fun _ _ => rfl)) (by walk_at "upd") rfl ?_
        exact SX.nil (SX.nil (SX.nil (SX.nil (SX.nil ⟨_, _, rfl⟩))))
      have h4 : ¬ x.fmod 32 < 29 := by simpa using h4
      have r10 := fmod_range (x.fdiv 32) (m := 10) (by decide)
      obtain ⟨t, ht⟩ := wr10_at ((x.fdiv 32).fmod 10).toNat (by omega)
      have e : rtok r o x = (t, []) := by unfold rtok; rw [if_neg hb', if_neg h1, if_neg h2, if_neg h3, if_neg h4, ht]; rfl
      rw [e]
      have hl10 : wr10.length = 10 := rfl
      with_reducible refine SX.assign (d := .str t) (σ' := sigF cells (.own (r.map .str)) (.own (o.map .str)) (.val (.int x)) (.val (.int (x.fmod 32))) (.val (.str t)) vz) ok ?_ ?_ ?_ ?_
      · refine EV.item (ds := wr10.map .str) (j := (x.fdiv 32).fmod 10) ?_ ?_ ?_ ?_ ?_ ?_ ?_
        · refine EV.list ?_ ?_
          · exact EVs.texts rfl
          · decide +kernel
        · exact EV.binop (EV.binop (EV.name ev (by walk_at "loc")) EV.const_int (OP2.floordiv_int (by decide) (by decide))) EV.const_int (OP2.mod_int (by decide))
        · omega
        · simp; omega
        · simp; omega
        · unfold idx; rw [if_neg (by omega), List.getElem?_map, ht]; rfl
        · exact fun _ _ => rfl
      · walk_at "upd"
      · rfl
      refine SX.newlist ok .nil (by simp) (by walk_at "upd") ?_
      exact SX.nil (SX.nil (SX.nil (SX.nil (SX.nil ⟨_, _, rfl⟩))))
    rintro σ₂ ⟨vk', vz', rfl⟩
    refine SX.append ok (by walk_at "loc") (EV.name ev (by walk_at "loc")) (by walk_at "upd") (by simp; omega) rfl rfl rfl ?_
    exact SX.nil ⟨_, _, _, _, _, _, by show _ = sigF _ _ _ _ _ _ _; rw [List.map_append]; rfl, hnext⟩
  rintro σ₁ ⟨r, o, vx, vk, vt, vz, rfl, hinv⟩
  rw [show (cells.map D.int).length = cells.length by simp, List.take_length] at hinv
  obtain ⟨_, hrl, hol⟩ := rfold_ok cells ([], []) (fun t ht => by cases ht) (Nat.le_refl _)
  rw [hinv] at hrl hol
  simp only [List.length_nil, Nat.zero_add] at hrl hol
  have hrow : row01 cells = (r ++ ((if due r then [tk "n"] else []) ++ closers o.reverse)) ++ [tk ""] := by unfold row01 closeUp; rw [hinv]
  have hclose := closers_len o.reverse
  generalize hform : r ++ ((if due r then [tk "n"] else []) ++ closers o.reverse) = form at hrow
  have hfl : form.length ≤ 500 := by
    rw [← hform]; simp only [List.length_append]; simp only [List.length_reverse] at hclose
    have : (if due r = true then [tk "n"] else []).length ≤ 1 := by split <;> simp
    omega
  refine SX.join (fun σ => σ = sigF cells (.own ((r ++ if due r then [tk "n"] else []).map .str)) (.own (o.map .str)) vx vk vt vz) (hdue r _ _ _ _ _ _ _ _ (by omega)) (fun hb => ?_) (fun hb => ?_) ?_
  · refine SX.append ok (by walk_at "loc") EV.const_str (by walk_at "upd") (by simp; omega) rfl rfl rfl ?_
    exact SX.nil (by show _ = sigF _ _ _ _ _ _ _; rw [if_pos hb, List.map_append]; rfl)
  · exact SX.nil (by show _ = sigF _ _ _ _ _ _ _; rw [if_neg (by rw [hb]; decide), List.append_nil])
  rintro σ₂ rfl
  refine SX.whileK (PassesOwn.never) (fun n σ => ∃ r' o', σ = sigF cells (.own (r'.map .str)) (.own (o'.map .str)) vx vk vt vz ∧ n = o'.length ∧ r' ++ closers o'.reverse = form) (fun σ => σ = sigF cells (.own (form.map .str)) (.own []) vx vk vt vz) o.length ⟨_, o, rfl, rfl, by rw [← hform, List.append_assoc]⟩ ?_ ?_
  · rintro n σ₃ ⟨r', o', rfl, rfl, hinv'⟩
    have hr' : r'.length ≤ 500 ∧ (closers o'.reverse).length ≤ 500 := by
      have := congrArg List.length hinv'; simp only [List.length_append] at this; omega
    refine ⟨!(o'.map D.str).isEmpty, _, EVB.toEXB (EVB.frozen (x := tk "opened") (σ' := sigF cells (.own (r'.map .str)) (.val (.list (o'.map .str))) vx vk vt vz) (by walk_at "loc") (by walk_at "upd") (EVB.compare (EV.name ev (by walk_at "loc")) (EV.list .nil (by simp)) (OP2.ne_nil ev) rfl)), fun hb => ?_, fun hb => ?_⟩
    · have hne : o' ≠ [] := fun e => by subst e; simp at hb
      obtain ⟨o₁, y, rfl⟩ : ∃ o₁ y, o' = o₁ ++ [y] := ⟨o'.dropLast, o'.getLast hne, (List.dropLast_concat_getLast hne).symm⟩
      have hlen : o₁.length ≤ 1000 := by
        have : ∀ st : List Str, st.length ≤ (closers st).length := by
          intro st
          induction st with
          | nil => exact Nat.le_refl _
          | cons a b ih => unfold closers; split <;> simp only [List.length_cons] <;> omega
        have := this (o₁ ++ [y]).reverse
        simp at this hr' ⊢; omega
      rw [List.reverse_append, List.reverse_singleton, List.singleton_append, closers] at hinv'
      refine SX.iteX (b := y == tk "(") (EXB.cmpX (d₁ := .str y) (σ₁ := sigF cells (.own (r'.map .str)) (.own (o₁.map .str)) vx vk vt vz) (EX.pop (ds := o₁.map .str) ev (by
            rw [List.map_append]; exact Loc.tail (Loc.tail (Loc.tail Loc.head))) (by rw [List.map_append]; exact Upd.tail (Upd.tail (Upd.tail Upd.head))) (by simp; omega) rfl) EV.const_str OP2.eq_str rfl) (fun h3 => ?_) (fun h3 => ?_)
      · rw [if_pos (eq_of_beq h3)] at hinv'
        refine SX.append ok (by walk_at "loc") EV.const_str (by walk_at "upd") (by simp; omega) rfl rfl rfl ?_
        exact SX.nil (SX.nil ⟨_, by simp, r' ++ [tk ")"], o₁, by show _ = sigF _ _ _ _ _ _ _; rw [List.map_append]; rfl, rfl, by rw [← hinv']; simp⟩)
      · rw [if_neg (ne_of_beq h3)] at hinv'
        refine SX.append ok (by walk_at "loc") EV.const_str (by walk_at "upd") (by simp; omega) rfl rfl rfl ?_
        refine SX.append ok (by walk_at "loc") EV.const_str (by walk_at "upd") (by simp; omega) rfl rfl rfl ?_
        exact SX.nil (SX.nil ⟨_, by simp, r' ++ [tk ":", tk "n"], o₁, by show _ = sigF _ _ _ _ _ _ _; rw [List.map_append]; simp, rfl, by rw [← hinv']; simp⟩)
    · have hne : o' = [] := by cases o' with | nil => rfl | cons _ _ => simp at hb
      subst hne
      show sigF _ _ _ _ _ _ _ = sigF _ _ _ _ _ _ _
      rw [← hinv']; simp [closers]
  rintro σ₃ rfl
  refine SX.append ok (by walk_at "loc") EV.const_str (by walk_at "upd") (by simp; omega) rfl rfl rfl ?_
  refine SX.freeze (x := tk "row") (by walk_at "loc") (by walk_at "upd") ?_
  refine SX.ret (EV.name ev (d := .list ((form.map .str) ++ [.str (tk "")])) (by walk_at "loc")) ?_
  show AFlow.ret _ = AFlow.ret (dstrs _)
  rw [hrow]; unfold dstrs; rw [List.map_append]; rfl
end Mine
open PySem PySem.W PyProof.Rows PyProof PySem.NumText
namespace Mine
noncomputable def WFin : WRes → Prop
  | .ok nx r => tk "" ∈ nx :: r
  | .bad _ _ => True
  | .out => False
noncomputable def WSfx (toks : List Str) : WRes → Prop
  | .ok nx r => ∃ a, toks = a ++ nx :: r
  | .bad _ r => ∃ a x, toks = a ++ x :: r
  | .out => True
/-- a row that has an end in it is never read past its end -/
theorem wk_fin (p : Int) : ∀ (toks : List Str) (st : List Str) (b : Bool), tk "" ∈ toks → WFin (wk p st b toks) := by
  intro toks
  induction toks with
  | nil => intro _ _ h; cases h
  | cons t r ih =>
    intro st b h
    have hr : t ≠ tk "" → tk "" ∈ r := fun hne => by
      rcases List.mem_cons.mp h with e | h
      · exact absurd e.symm hne
      · exact h
    cases b with
    | true =>
      rw [wk]
      split
      · next e => exact ih _ _ (hr (by rw [e]; decide +kernel))
      split
      · next e => exact ih _ _ (hr (by
          rcases e with rfl | e
          · decide +kernel
          · rintro rfl; exact absurd e (by decide +kernel)))
      split
      · next e => exact ih _ _ (hr (by rw [e]; decide +kernel))
      · trivial
    | false =>
      rw [wk.eq_def]
      dsimp only
      split
      · next e => exact ih _ _ (hr (by rintro rfl; exact absurd e.1 (by decide +kernel)))
      split
      · next e => exact ih _ _ (hr (by rw [e.1]; decide +kernel))
      cases st with
      | nil => exact h
      | cons x st' =>
        dsimp only
        split
        · split
          · next e => exact ih _ _ (hr (by rw [e]; decide +kernel))
          · trivial
        · split
          · next e => exact ih _ _ (hr (by rw [e]; decide +kernel))
          · trivial
/-- what is left is the row's end, and shorter -/
theorem wk_suffix (p : Int) : ∀ (toks : List Str) (st : List Str) (b : Bool), WSfx toks (wk p st b toks) := by
  intro toks
  induction toks with
  | nil => intro st b; rw [wk]; trivial
  | cons t r ih =>
    intro st b
    have step : ∀ st b, WSfx (t :: r) (wk p st b r) := fun st b => by
      have := ih st b
      revert this
      cases wk p st b r with
      | ok nx r' => rintro ⟨a, rfl⟩; exact ⟨t :: a, rfl⟩
      | bad m r' => rintro ⟨a, x, rfl⟩; exact ⟨t :: a, x, rfl⟩
      | out => exact id
    cases b with
    | true =>
      rw [wk]
      split
      · exact step _ _
      split
      · exact step _ _
      split
      · exact step _ _
      · exact ⟨[], t, rfl⟩
    | false =>
      rw [wk.eq_def]
      dsimp only
      split
      · exact step _ _
      split
      · exact step _ _
      cases st with
      | nil => exact ⟨[], rfl⟩
      | cons x st' =>
        dsimp only
        split
        · split
          · exact step _ _
          · exact ⟨[], t, rfl⟩
        · split
          · exact step _ _
          · exact ⟨[], t, rfl⟩
/-- the rows of the law: each token Ok1, the end last, or nothing -/
noncomputable def Row (row : List Str) : Prop := (∀ t ∈ row, Ok1 t) ∧ (row = [] ∨ ∃ a, row = a ++ [tk ""])
theorem Row.tail {a r : List Str} {x : Str} (h : Row (a ++ x :: r)) : Row r := by
  obtain ⟨h1, h2⟩ := h
  refine ⟨fun t ht => h1 t (by simp [ht]), ?_⟩
  rcases h2 with h | ⟨b, h⟩
  · simp at h
  · rcases List.eq_nil_or_concat r with rfl | ⟨r', y, rfl⟩
    · exact .inl rfl
    · rw [List.concat_eq_append] at h ⊢
      have : (a ++ x :: r') ++ [y] = b ++ [tk ""] := by simpa using h
      have hy := (List.append_inj' this rfl).2
      rw [hy]
      exact .inr ⟨r', rfl⟩
theorem Row.mem {row : List Str} (h : Row row) (hne : row ≠ []) : tk "" ∈ row := by
  rcases h.2 with h | ⟨a, rfl⟩
  · exact absurd h hne
  · simp
end Mine
namespace Mine
theorem okA {a b : Str} (ha : PyData.strOk a = true) (hb : PyData.strOk b = true) : PyData.strOk (a ++ b) = true := by
  unfold PyData.strOk at *
  rw [Str.cps_append, Array.all_append, ha, hb]; rfl
theorem okNots : ∀ k, PyData.strOk (notTxt k) = true
  | 0 => by decide +kernel
  | k + 1 => okA (okNots k) (by decide +kernel)
theorem okParen {a : Str} (ha : PyData.strOk a = true) : PyData.strOk (paren a) = true := okA (okA (by decide +kernel) ha) (by decide +kernel)
theorem strip_sub : ∀ (l : List Nat) (c : Nat), c ∈ stripL l → c ∈ l
  | [], _, h => h
  | [_], _, h => h
  | a :: b :: r, c, h => by
    unfold stripL at h
    split at h
    · exact .tail _ (strip_sub (b :: r) c h)
    · exact h
theorem okNum {t : Str} (h : PyData.strOk t = true) : PyData.strOk (num t) = true := by
  unfold PyData.strOk at *
  rw [Array.all_eq_true_iff_forall_mem] at *
  intro c hc
  refine h c ?_
  have : c ∈ stripL t.cps.toList := by simpa [num] using hc
  simpa using strip_sub _ _ this
theorem okPy {o : Str} {i : Int} (h : lvl o = some i) : PyData.strOk (pyOp o) = true := by
  have hm := lvl_mem h
  have : ∀ q ∈ opsTab, PyData.strOk (pyOp q.1) = true := by unfold opsTab; decide +kernel
  exact this _ hm
theorem wr_ok : ∀ (n : Nat) (part : List Str) (q : Int) (x : Str), WR n part q x → (∀ t ∈ part, PyData.strOk t = true) → PyData.strOk x = true
  | 0, _, _, _, h, _ => h.elim
  | n + 1, part, q, x, h, ht => by
    rcases h with ⟨a, b, c, xa, xb, xc, rfl, _, _, _, _, h1, h2, h3, rfl⟩ | ⟨_, a, b, o, i, xa, xb, rfl, hi, _, h1, h2, rfl⟩ | ⟨_, _, k, ⟨t, rfl, _, rfl⟩ | ⟨m, xm, rfl, h1, rfl⟩⟩
    · have e1 := wr_ok n _ _ _ h1 fun t hh => ht t (by simp [hh])
      have e2 := wr_ok n _ _ _ h2 fun t hh => ht t (by simp [hh])
      have e3 := wr_ok n _ _ _ h3 fun t hh => ht t (by simp [hh])
      have e4 := okA (okA (okA (okA e1 (b := tk " if ") (by decide +kernel)) e2) (b := tk " else ") (by decide +kernel)) e3
      split
      · exact okParen e4
      · exact e4
    · have e1 := wr_ok n _ _ _ h1 fun t hh => ht t (by simp [hh])
      have e2 := wr_ok n _ _ _ h2 fun t hh => ht t (by simp [hh])
      have e3 : PyData.strOk (if isCmp i && isCmp (weakest a).1 then paren xa else xa) = true := by
        split
        · exact okParen e1
        · exact e1
      have e4 : PyData.strOk (if i = 3 ∧ (weakest b).1 = 4 then paren xb else xb) = true := by
        split
        · exact okParen e2
        · exact e2
      have e5 := okA (okA (okA (okA e3 (b := tk " ") (by decide +kernel)) (okPy hi)) (b := tk " ") (by decide +kernel)) e4
      split
      · exact okParen e5
      · exact e5
    · exact okA (okNots k) (okNum (ht t (by simp)))
    · have e1 := wr_ok n _ _ _ h1 fun t hh => ht t (by simp [hh])
      exact okA (okNots k) (okA (okA (by decide +kernel) e1) (by decide +kernel))
theorem errMsg_ok {t : Str} (h : PyData.strOk t = true) : PyData.strOk (errMsg t) = true := by
  unfold errMsg
  split
  · decide +kernel
  · exact okA (by decide +kernel) h
theorem errMsg_pos (t : Str) : 10 ≤ (errMsg t).length := by
  unfold errMsg
  split
  · decide +kernel
  · rw [Str.length_append]
    have : 10 ≤ (tk "unexpected token in plural form: ").length := by decide +kernel
    omega
theorem errMsg_len {t : Str} (h : t.length ≤ 64) : (errMsg t).length ≤ 200 := by
  unfold errMsg
  split
  · decide +kernel
  · rw [Str.length_append]
    have : (tk "unexpected token in plural form: ").length ≤ 100 := by decide +kernel
    omega
/-- the words of a refusal -/
theorem wk_msg (p : Int) : ∀ (toks : List Str) (st : List Str) (b : Bool) (m : Str) (r : List Str), wk p st b toks = .bad m r → m = unbal ∨ ∃ t ∈ toks, m = errMsg t := by
  intro toks
  induction toks with
  | nil => intro st b m r h; rw [wk] at h; cases h
  | cons t r ih =>
    intro st b m r' h
    have step : ∀ st b, wk p st b r = .bad m r' → m = unbal ∨ ∃ x ∈ t :: r, m = errMsg x := fun st b h => by
      rcases ih st b m r' h with h | ⟨x, hx, h⟩
      · exact .inl h
      · exact .inr ⟨x, .tail _ hx, h⟩
    cases b with
    | true =>
      rw [wk] at h
      split at h
      · exact step _ _ h
      split at h
      · exact step _ _ h
      split at h
      · exact step _ _ h
      · injection h with h _; exact .inr ⟨t, .head _, h.symm⟩
    | false =>
      rw [wk.eq_def] at h
      dsimp only at h
      split at h
      · exact step _ _ h
      split at h
      · exact step _ _ h
      cases st with
      | nil => cases h
      | cons x st' =>
        dsimp only at h
        split at h
        · split at h
          · exact step _ _ h
          · injection h with h _; exact .inl h.symm
        · split at h
          · exact step _ _ h
          · injection h with h _; exact .inr ⟨t, .head _, h.symm⟩
theorem tk_empty_length : (tk "").length = 0 := by decide +kernel
/-- the plain law of lo0003-01, one call -/
theorem plain01 {lft : List Str} {q : Int} (hrow : Row lft) (hne : lft ≠ []) (hl : lft.length ≤ 86) (hq : q ≤ 7) :
    (∃ used nx rest text, lft = used ++ nx :: rest ∧ walkRes lft q = (used.length, tk "") ∧ run 200 (.start q) lft = .ok text nx rest ∧ WR (used.length + 1) used q text ∧ Row rest ∧ PyData.strOk text = true ∧ PyData.strOk nx = true) ∨
    (∃ used x rest msg, lft = used ++ x :: rest ∧ walkRes lft q = (used.length, msg) ∧ msg ≠ tk "" ∧ run 200 (.start q) lft = .bad msg rest ∧ Row rest ∧ PyData.strOk msg = true ∧ msg.length ≤ 200) := by
  have hT : ∀ t ∈ lft, Tok t := fun t ht => (hrow.1 t ht).tok
  have h0 := run_top hT (q := q) (by omega) (f := 200) (by omega)
  have h1 := wk_suffix q lft [] true
  have h2 := wk_fin q lft [] true (hrow.mem hne)
  have hw : walkRes lft q = match wk q [] true lft with
    | .ok _ r => (lft.length - 1 - r.length, tk "")
    | .bad m r => (lft.length - 1 - r.length, m)
    | .out => (lft.length, tk "no end") := rfl
  cases hwk : wk q [] true lft with
  | out => rw [hwk] at h2; exact h2.elim
  | ok nx rest =>
    rw [hwk] at h0 hw
    obtain ⟨e, e1, e2, e3, e4, e5⟩ := h0
    have hwr := wr_flat e e.flat.length q e1 (Nat.le_refl _)
    have hok : ∀ t ∈ e.flat, PyData.strOk t = true := fun t ht => (hrow.1 t (by rw [e3]; simp [ht])).ok
    refine .inl ⟨e.flat, nx, rest, e.txt q, e3, ?_, e5, hwr, Row.tail (x := nx) (a := e.flat) (by rw [← e3]; exact hrow), wr_ok _ _ _ _ hwr hok, (hrow.1 nx (by rw [e3]; simp)).ok⟩
    rw [hw]
    dsimp only
    have : lft.length = e.flat.length + 1 + rest.length := by rw [e3]; simp; omega
    rw [show lft.length - 1 - rest.length = e.flat.length by omega]
  | bad m rest =>
    rw [hwk] at h0 h1 hw
    obtain ⟨a, x, h3⟩ := h1
    have hm := wk_msg q lft [] true m rest hwk
    have hm2 : 10 ≤ m.length ∧ m.length ≤ 200 ∧ PyData.strOk m = true := by
      rcases hm with rfl | ⟨t, ht, rfl⟩
      · exact ⟨by decide +kernel, by decide +kernel, by decide +kernel⟩
      · exact ⟨errMsg_pos t, errMsg_len (hrow.1 t ht).len, errMsg_ok (hrow.1 t ht).ok⟩
    refine .inr ⟨a, x, rest, m, h3, ?_, fun q => ?_, h0, Row.tail (x := x) (a := a) (by rw [← h3]; exact hrow), hm2.2.2, hm2.2.1⟩
    · rw [hw]
      dsimp only
      have : lft.length = a.length + 1 + rest.length := by rw [h3]; simp; omega
      rw [show lft.length - 1 - rest.length = a.length by omega]
    · rw [q, tk_empty_length] at hm2; omega
end Mine
namespace Mine
section
variable {c : Cfg} {σ σ' σ₁ σ₂ : Sig} {E : ERes} {Φ : AFlow → Sig → Prop} {rest : List Stmt}
theorem lookup_of_nodupA : ∀ {l : Sig} {x : Str} {u : AV}, (x, u) ∈ l → (l.map (·.1)).Nodup → l.lookup x = some u
  | [], _, _, h, _ => nomatch h
  | p :: l, x, u, hm, hnd => by
    rw [List.map_cons, List.nodup_cons] at hnd
    rw [List.lookup_cons]
    rcases List.mem_cons.mp hm with rfl | hm
    · simp
    · have : (x == p.1) = false := by
        rw [beq_eq_false_iff_ne]; intro e; exact hnd.1 (e ▸ List.mem_map_of_mem (f := (·.1)) hm)
      rw [this]; exact lookup_of_nodupA hm hnd.2
/-- an expression that raises, told against the heap at hand -/
noncomputable def EXW (c : Cfg) (l : List Env) (σ : Sig) (e : Expr) (a : ItA) (ds' : List D) (msg : Str) : Prop :=
  ∀ (k : G) (N : Addr → Prop) (g : G) (m : Str → Option Value) (s : Shared) (Q E : Value → Shared → Prop), W c k N g m σ s.heap →
    (∀ v h₂ g₂ h' tk, W c k N g₂ m σ h₂ → Fly h₂ a ds' (c.env :: l) msg v h' → E v { s with heap := h', toks := tk }) → wpG true c.M c.A (eval e c.env) Q E s
theorem EXW.callP {prog : Program} {w : World} {h₁ : Heap} {mg : Str → Option Value} (ok : c.Ok) {l : List Env} (r : CfgR c l) (is : c.Is prog w h₁ mg) {x y : Str} {p p1 pos : Pos} {es : List Expr} {as ds ds' : List D} {a : ItA} {f : Addr} {n : Nat} {msg : Str} (hx : GL c x (some (.ref f))) (hf : IsFn h₁ f) (hl : Loc σ y (.it a ds)) (hs : EVs c σ es as) (hF : PFX prog w h₁ f n ds as msg ds') (haf : a.1 ∉ fra l)
    (hdp : c.A.depth + n < recursionLimit) (hun : c.A.units + 8 * n + 64 < cLine) : EXW c l σ (.Call (.Name x p) (.Name y p1 :: es) [] pos) a ds' msg := by
  obtain ⟨rfl, rfl, rfl, rfl⟩ := is
  intro k N g m s Q E w q
  refine wpG.callName (W.global ok.toEv w hx ?_)
  obtain ⟨o, fd, ho, hfd⟩ := hf
  obtain ⟨hm, hat, hka, hga, hfa⟩ := w.loc y _ hl.mem
  have hbt : backTo pos (starEach (.Name y p1 :: es) c.env) = (false, eval (.Name y p1) c.env) :: es.map fun e => (false, eval e c.env) := by
    have : backTo pos (starEach (.Name y p1 :: es) c.env) = (false, eval (.Name y p1) c.env) :: backTo pos (starEach es c.env) := rfl
    rw [this, hs.plain]
  refine wpG.callDef (o := o) (fd := fd) ?_
  rw [hbt]
  refine Calls.evalArgs_plain (Calls.spliced_cons (wpAny_Name (w.load ok.toEv hl hm (hs.splice k N g m s _ E w fun vs h₂ g₂ t₂ k₂ w₂ l₂ r₂ => ⟨⟨w₂.keep₁ _ _ ho, hfd⟩, ?_⟩)) (w.nodebug hl)))
  obtain ⟨_, hat₂, _, hga₂, _⟩ := w₂.loc y _ hl.mem
  have hm2 : fra (c.env :: l) = c.env.locals :: fra l := fra_cons r.frame
  refine hF c.A _ g₂ a vs (c.env :: l) _ E ok.hh hdp hun w₂.keep₁ ?_ w₂.gin hat₂ hga₂ r₂ r.frames (r.at ok w₂).1 (by rw [hm2]; exact fun q => (List.mem_cons.mp q).elim (fun q => hfa (q ▸ ok.Lfp)) haf) fun v h₃ t₃ hy => ?_
  · cases e : c.h₁.get? a.1 with
    | none => rfl
    | some o => rw [w.base _ _ e] at hka; cases hka
  · exact q v h₂ g₂ h₃ t₃ w₂ hy
/-- try: if t: x = e else: x = f, and nothing is raised -/
theorem SX.try_if (ok : c.Ok) {t e : Expr} {x : Str} {b : Bool} {body orelse : List Stmt} {p p' pi pos : Pos} {d : D} {hd : ExceptHandler} {hs : List ExceptHandler} (ht : EVB c σ t b) (hb : (if b then body else orelse) = [.Assign [.Name x p'] e p]) (he : EX c σ e d σ₁) (hu : Upd σ₁ x (.val d) σ') (hw : swapsWith e (some (.Name x p')) p.line c.env = pure false) (k : SX c E σ' rest Φ) :
    SX c E σ (.Try [.If t body orelse pi] (hd :: hs) [] [] pos :: rest) Φ := by
  refine SX.stepG fun kk N g m s w => wpG.try (.cons (.ite (ht kk N g m s _ _ w fun h₁ g₁ t₁ k₁ w₁ l₁ => ?_)))
  rw [hb]
  refine .of (wpAny_execs_cons (wpAny_Assign_Name (he kk N g₁ m _ _ _ w₁ fun v h₂ g₂ t₂ w₂ l₂ r₂ => ?_) hw))
  refine W.put ok w₂ r₂ hu fun h' tk w' => ?_
  exact wpAny_execs_nil (.nil (.nil ⟨h', tk, g₂, _, σ', .next, rfl, w', .next, k⟩))
theorem Slots.ns {H h : Heap} {a : ItA} {l : List Env} {L : Addr} {m : Str → Option Value} (x : Slots H a l h) (n : H.Ns L m) (hm : L ∈ fra l) (hne : L ≠ a.1) : h.Ns L m := by
  obtain ⟨o, es, ep, ho, hd, r⟩ := n
  obtain ⟨sl, e⟩ := x L o ho hm hne (fun vs q => by rw [hd] at q; cases q)
  exact ⟨_, es, ep, e, hd, r⟩
theorem starEach_call {x : Expr} {as : List Expr} {p pos : Pos} {env : Env} : backTo pos (starEach [.Call x as [] p] env) = [(false, eval (.Call x as [] p) env)] := rfl
set_option maxHeartbeats 4000000 in
/-- try: if t: x = e else: x = f except ValueError as er: x = [str(er)], where the one taken raises -/
theorem SX.try_catch (ok : c.Ok) (r : CfgR c []) (hcl : c.env.cells = []) (hfp : c.fp = [c.env.locals]) {t e : Expr} {x y er : Str} {b : Bool} {body orelse : List Stmt} {a : ItA} {ds : List D} {ts : List Str} {msg : Str} {p p' pi ep p6 p7 p8 p9 p10 p11 hp pos : Pos}
    (hve : GL c "ValueError" none) (hst : GL c "str" none) (ht : EVB c σ t b) (hb : (if b then body else orelse) = [.Assign [.Name x p'] e p]) (hsw : swapsWith e (some (.Name x p')) p.line c.env = pure false) (he : EXW c [] σ e a (ts.map .str) msg)
    (hl : Loc σ y (.it a ds)) (hu1 : Upd σ y (.it a (ts.map .str)) σ₁) (hu2 : Upd σ₁ x (.val (.list [.str msg])) σ') (hyx : y ≠ x) (hex : er ≠ x) (hey : er ≠ y) (hlx : c.env.kindOf x = some .local) (hle : Loc σ er .un) (hlk : c.env.kindOf er = some .local)
    (hsw2 : swapsWith (.List [.Call (.Name "str" p7) [.Name er p8] [] p9] p10) (some (.Name x p6)) p11.line c.env = pure false)
    (k : SX c E σ' rest Φ) :
    SX c E σ (.Try [.If t body orelse pi] [.ExceptHandler (some (.Name "ValueError" ep)) (some er) [.Assign [.Name x p6] (.List [.Call (.Name "str" p7) [.Name er p8] [] p9] p10) p11] hp] [] [] pos :: rest) Φ := by
  have ev := ok.toEv
  refine SX.stepG fun kk N g m s w => r.cal ▸ wpG.try (.cons (.ite (ht kk N g m s _ _ w fun h₁ g₁ t₁ k₁ w₁ l₁ => ?_)))
  rw [hb]
  refine .cons (.assign (he kk N g₁ m _ _ _ w₁ fun v hA gA hB tkB wA hy => ?_) hsw)
  obtain ⟨e0, B, t0, tkt, rfl, hBk, hfl, htup, htn, hit, hS⟩ := hy
  have hfr : fra [c.env] = [c.env.locals] := fra_cons r.frame
  obtain ⟨hmy, haty, hky, hgy, hfy⟩ := wA.loc y _ hl.mem
  have hLa : c.env.locals ≠ a.1 := fun q => hfy (q ▸ ok.Lfp)
  have hLfra : c.env.locals ∈ fra [c.env] := by rw [hfr]; exact .head _
  obtain ⟨m₀, hnsA, hm₀⟩ := wA.fr.ns
  have hnsB := hS.ns hnsA hLfra hLa
  refine wpAny_looks_onW r.frames r.frame hfl fun hC heldC smC => ?_
  refine wpAny_landsW heldC fun hD flD smD => ?_
  have hnsD := smD.ns (smC.ns hnsB)
  -- what of hA is no frame and no iterator, is in B
  have nsg : ∀ {h' : Heap}, B.StaysIn h' → ∀ (a' : Addr) (m' : Str → Option Value), hA.Ns a' m' → a' ≠ c.env.locals → h'.Ns a' m' := fun {h'} st a' m' n hne => by
    obtain ⟨o, es, ep, ho, hd, rr⟩ := n
    refine ⟨o, es, ep, st _ _ (hBk a' o ho (by rw [hfr]; simpa using hne) fun q => ?_), hd, rr⟩
    obtain ⟨i, o', vs, n', ⟨o2, q1, q2, q3⟩, _⟩ := haty
    rw [q, q1] at ho; cases ho; rw [q3] at hd; cases hd
  have hLg : ∀ {a' : Addr} {m' : Str → Option Value}, c.h₁.Ns a' m' → a' ≠ c.env.locals := fun {a' m'} n q => by
    obtain ⟨o, es, ep, ho, _⟩ := n
    have := wA.base _ _ ho
    rw [q, (wA.fpk _ ok.Lfp).1] at this; cases this
  have gD : hD.Ns mainGlobals c.mg := nsg flD.1 _ _ (ev.st.g.keeps wA.keep₁) (hLg ev.st.g)
  have bD : hD.Ns builtinsNs c.mb := nsg flD.1 _ _ (ev.st.b.keeps wA.keep₁) (hLg ev.st.b)
  obtain ⟨oe, hoe, hoec⟩ := flD.there
  refine wpAny_handleBy_builtin_as (X := "ValueError") (T := "ValueError") (b := true) PySem.F.isExc_ValueError PySem.F.notTuple_ValueError (by rw [isSubtype_type]; kernel_rfl) ?_
  refine PySem.Calls.Name_function_global ev.hk hve.1 (PySem.Calls.loadGlobal_builtin (by rw [ev.hg]; exact gD) hve.2.2 (by rw [ev.hb]; exact bD) ((ev.st.bi _ (by decide)).trans (show bootBuiltins "ValueError" = some (.type "ValueError") by decide +kernel)) ⟨rfl, ⟨_, hoe, hoec⟩, ?_⟩) hve.2.1
  rw [if_pos rfl]
  refine lands_againW flD fun hE flE smE => ?_
  have hnsE := smE.ns hnsD
  refine wpAny_storeName_local hlk hnsE (fun hF nF sF => ?_) (W.class_free ev)
  -- what of B is there, stays
  have BL : B.get? c.env.locals = none := by
    obtain ⟨_, ⟨L', _, hf, hn', _⟩, _⟩ := flE.2.2.1
    rw [r.frame] at hf; cases hf; exact hn'
  have keepF : B.StaysIn hF := fun b o q => (sF.2 b (fun q2 => by rw [q2, BL] at q; cases q)).trans (flE.1 b o q)
  have gF : hF.Ns mainGlobals c.mg := nsg keepF _ _ (ev.st.g.keeps wA.keep₁) (hLg ev.st.g)
  have bF : hF.Ns builtinsNs c.mb := nsg keepF _ _ (ev.st.b.keeps wA.keep₁) (hLg ev.st.b)
  obtain ⟨oe2, vs2, hoe2, hoec2, hoed2, hoe02⟩ := flE.first
  obtain ⟨oL, _, _, hoL, hdL, _⟩ := id hnsE
  have heL : e0 ≠ c.env.locals := fun q => by rw [q, hoL] at hoe2; cases hoe2; rw [hoed2] at hdL; cases hdL
  obtain ⟨ot, nt, hot, hotc, hotd⟩ := ((htup.of_slots smC).of_slots smD).of_slots smE
  have htL : t0 ≠ c.env.locals := fun q => by rw [q, hoL] at hot; cases hot; rw [hotd] at hdL; cases hdL
  have exF : hF.ExcAt e0 "ValueError" (.ref t0) := ⟨oe2, vs2, (sF.2 _ heL).trans hoe2, hoec2, hoed2, hoe02⟩
  have tuF : hF.TupAt t0 [.str msg tkt] := ⟨ot, nt, (sF.2 _ htL).trans hot, hotc, hotd⟩
  refine wpAny_execs_cons (wpAny_Assign_Name (List_ ?_) hsw2)
  rw [starEach_call]
  refine PySem.Calls.spliced_cons (wpAny_Call_NameR ?_)
  refine PySem.Calls.Name_function_global ev.hk hst.1 (PySem.Calls.loadGlobal_builtin (by rw [ev.hg]; exact gF) hst.2.2 (by rw [ev.hb]; exact bF) ((ev.st.bi _ (by decide)).trans (show bootBuiltins "str" = some (.type "str") by decide +kernel)) ?_) hst.2.1
  have hnd := wA.nodebug hle
  refine PySem.callWith_type rfl ?_
  rw [show backTo p9 (starEach [.Name er p8] c.env) = [(false, eval (.Name er p8) c.env)] from rfl]
  refine PySem.Calls.evalArgs_plain (PySem.Calls.spliced_cons (wpAny_Name (wpAny_loadName_local ev.hk hlk nF (if_pos rfl) (PySem.Calls.spliced_nil ?_)) hnd))
  refine PySem.P.str_of_exc_one PySem.F.excStr_ValueError (by have := ev.un; show c.A.units + 2 < cLine; omega) exF tuF (PySem.Calls.spliced_nil ?_)
  refine wpAny_newList ?_ (by rw [sizeLine_eq]; simp)
  have kG : Keep hF (hF.push (listObj [.str msg tkt] 0)) := Keep.push _ _
  have hGD : (hF.push (listObj [.str msg tkt] 0)).get? hF.objs.size = some (listObj [.str msg tkt] 0) := Heap.get?_push_size _ rfl
  have hFD : hF.get? hF.objs.size = none := Heap.get?_none_of_le (Nat.le_refl _)
  have hDL : hF.objs.size ≠ c.env.locals := fun q => by obtain ⟨o, _, _, ho, _⟩ := nF; rw [← q, hFD] at ho; cases ho
  refine wpAny_storeName_local hlx (nF.keeps kG) (fun hH nH sH => ?_) (W.class_free ev)
  refine wpAny_execs_nil ?_
  refine wpAny_nameGoes_keeps hlk nH (W.class_free ev) fun hI vI nI sI => ?_
  have keepI : B.StaysIn hI := fun b o q => by
    have hb : b ≠ c.env.locals := fun q2 => by rw [q2, BL] at q; cases q
    exact (sI.2 b hb).trans ((sH.2 b hb).trans (kG _ _ (keepF _ _ q)))
  have hID : hI.get? hF.objs.size = some (listObj [.str msg tkt] 0) := (sI.2 _ hDL).trans ((sH.2 _ hDL).trans hGD)
  have inI : ∀ b o, hA.get? b = some o → b ≠ c.env.locals → b ≠ a.1 → hI.get? b = some o := fun b o q h1 h2 => keepI _ _ (hBk b o q (by rw [hfr]; simpa using h1) h2)
  have oldD : ∀ b o, hA.get? b = some o → b ≠ a.1 → b ≠ hF.objs.size := fun b o q h2 q2 => by
    by_cases h1 : b = c.env.locals
    · exact hDL (q2 ▸ h1)
    · have := keepF _ _ (hBk b o q (by rw [hfr]; simpa using h1) h2)
      rw [q2, hFD] at this; cases this
  have gD0 : gA hF.objs.size = none := by
    cases q : gA hF.objs.size with
    | none => rfl
    | some o => exact absurd rfl (oldD _ o (wA.gin _ _ q) fun q2 => by rw [q2, hgy] at q; cases q)
  have gle : Le gA (gA.add hF.objs.size (listObj [.str msg tkt] 0)) := Le.add gD0
  obtain ⟨iB, oB, vsB, nB, hitB, hoB, hocB, hodB, hleB, hszB, hrB⟩ := hit
  obtain ⟨iA, oA, vsA, nA, hitA, hoA, hocA, hodA, hleA, hszA, hrA⟩ := haty
  have hoeq : oA = oB := by
    have h1 := hBk a.2 oA (wA.gin _ _ hoA) (by rw [hfr]; intro q; rw [List.mem_singleton.mp q, (wA.fpk _ ok.Lfp).2] at hoA; cases hoA) (fun q => by rw [q, hgy] at hoA; cases hoA)
    exact Option.some.inj (h1.symm.trans hoB)
  have haD : a.1 ≠ hF.objs.size := fun q => by
    obtain ⟨o2, q1, _⟩ := hitB
    have := keepF _ _ q1
    rw [q, hFD] at this; cases this
  let m' : Str → Option Value := fun z => if z = er then vI else if z = x then some (.ref hF.objs.size) else m z
  have old : ∀ z u, (z, u) ∈ σ' → z ≠ x → z ≠ y → (z, u) ∈ σ := fun z u hm h1 h2 => by
    have nd1 : (σ₁.map (·.1)).Nodup := by rw [hu1.keys]; exact wA.nod
    rcases hu2.mem nd1 hm with ⟨q, _⟩ | ⟨_, hm⟩
    · exact absurd q h1
    · rcases hu1.mem wA.nod hm with ⟨q, _⟩ | ⟨_, hm⟩
      · exact absurd q h2
      · exact hm
  have atx : ∀ u, (x, u) ∈ σ' → u = .val (.list [.str msg]) := fun u hm => by
    rcases hu2.mem (by rw [hu1.keys]; exact wA.nod) hm with ⟨_, q⟩ | ⟨q, _⟩
    · exact q
    · exact absurd rfl q
  have aty : ∀ u, (y, u) ∈ σ' → u = .it a (ts.map .str) := fun u hm => by
    rcases hu2.mem (by rw [hu1.keys]; exact wA.nod) hm with ⟨q, _⟩ | ⟨_, hm⟩
    · exact absurd q hyx
    · rcases hu1.mem wA.nod hm with ⟨_, q⟩ | ⟨q, _⟩
      · exact q
      · exact absurd rfl q
  have uniq : ∀ u, (er, u) ∈ σ → u = .un := fun u hm => by
    have h1 := lookup_of_nodupA hm wA.nod
    have h2 := lookup_of_nodupA hle.mem wA.nod
    rw [h1] at h2; exact Option.some.inj h2
  have freeOf : ∀ z u, (z, u) ∈ σ' → u.free = true → ∃ u', (z, u') ∈ σ ∧ u'.free = true ∧ z ≠ er ∧ z ≠ x := fun z u hm hf => by
    by_cases h1 : z = x
    · subst h1; rw [atx u hm] at hf; cases hf
    by_cases h2 : z = y
    · subst h2; exact ⟨_, hl.mem, rfl, Ne.symm hey, h1⟩
    · have hm' := old z u hm h1 h2
      refine ⟨u, hm', hf, fun q => ?_, h1⟩
      subst q; rw [uniq u hm'] at hf; cases hf
  have w' : W c kk N (gA.add hF.objs.size (listObj [.str msg tkt] 0)) m' σ' hI := by
    refine { base := wA.base, kin := fun b o q => inI b o (wA.kin b o q) (fun q2 => by rw [q2, (wA.fpk _ ok.Lfp).1] at q; cases q) (fun q2 => by rw [q2, hky] at q; cases q), gin := G.In.add (fun b o q => inI b o (wA.gin b o q) (fun q2 => by rw [q2, (wA.fpk _ ok.Lfp).2] at q; cases q) (fun q2 => by rw [q2, hgy] at q; cases q)) hID, fpk := fun p hp => ?_, fpl := fun p hp => ?_, nN := fun b hb => ⟨(wA.nN b hb).1, ?_⟩, fr := ⟨⟨_, nI, fun z hz => ?_⟩, fun z p _ h => ?_⟩, cel := fun z p h => ?_, Lfp := ok.Lfp, nod := by rw [hu2.keys, hu1.keys]; exact wA.nod, lcl := by rw [hu2.keys, hu1.keys]; exact wA.lcl, loc := fun z u hm => ?_, sep := fun z u z' u' p h1 h2 h3 h4 h5 h6 => ?_ }
    · rw [hfp] at hp
      rw [List.mem_singleton.mp hp]
      exact ⟨(wA.fpk _ ok.Lfp).1, by rw [G.add_ne (Ne.symm hDL)]; exact (wA.fpk _ ok.Lfp).2⟩
    · rw [hfp] at hp
      rw [List.mem_singleton.mp hp]
      obtain ⟨o, _, _, ho, _⟩ := nI; rw [ho]; exact fun q => nomatch q
    · rw [G.add_ne]; exact (wA.nN b hb).2
      intro q
      have h1 := (wA.nN b hb).1
      obtain ⟨o, ho⟩ := Option.ne_none_iff_exists'.mp h1
      exact oldD b o (wA.kin _ _ ho) (fun q2 => by rw [q2, hky] at ho; cases ho) q
    · show (if z = er then vI else if z = x then some (.ref hF.objs.size) else if z = er then some (.ref e0) else m₀ z) = m' z
      by_cases h1 : z = er
      · simp only [m', if_pos h1]
      · simp only [m', if_neg h1]
        rw [hm₀ z hz]
    · rw [hcl] at h; cases h
    · rw [hcl] at h; cases h
    · by_cases h1 : z = x
      · subst h1
        rw [atx u hm]
        refine ⟨.ref hF.objs.size, by simp only [m', if_neg (Ne.symm hex)]; simp, .list (G.add_self _ _ _) rfl rfl (.cons (.str _ _) .nil)⟩
      by_cases h2 : z = y
      · subst h2
        rw [aty u hm]
        refine ⟨by simp only [m', if_neg (Ne.symm hey), if_neg h1]; exact hmy, ⟨iB, oA, vsB, nB, ?_, gle _ _ hoA, hoeq ▸ hocB, hoeq ▸ hodB, hleB, hszB, hrB.texts⟩, hky, by rw [G.add_ne haD]; exact hgy, hfy⟩
        obtain ⟨o2, q1, q2⟩ := hitB
        exact ⟨o2, keepI _ _ q1, q2⟩
      · have hm' := old z u hm h1 h2
        by_cases h3 : z = er
        · subst h3; rw [uniq u hm']; trivial
        have hv := wA.loc z u hm'
        have em : m' z = m z := by simp only [m', if_neg h3, if_neg h1]
        cases u with
        | un => trivial
        | val d => obtain ⟨u, q1, q2⟩ := hv; exact ⟨u, em.trans q1, q2.mono gle⟩
        | own ds =>
          obtain ⟨a', vs, n, q1, q2, q3, q4, q5, q6⟩ := hv
          have hne : a' ≠ a.1 := fun q => h2 (wA.sep z _ y _ a' hm' hl.mem rfl rfl q1 (q ▸ hmy))
          have hnL : a' ≠ c.env.locals := fun q => q6 (q ▸ ok.Lfp)
          exact ⟨a', vs, n, em.trans q1, inI _ _ q2 hnL hne, q3.mono gle, q4, by rw [G.add_ne (oldD _ _ q2 hne)]; exact q5, q6⟩
        | it a' ds =>
          obtain ⟨q1, q2, q4, q5, q6⟩ := hv
          have hne : a'.1 ≠ a.1 := fun q => h2 (wA.sep z _ y _ a'.1 hm' hl.mem rfl rfl q1 (q ▸ hmy))
          have hnL : a'.1 ≠ c.env.locals := fun q => q6 (q ▸ ok.Lfp)
          obtain ⟨o', ho'⟩ := Option.ne_none_iff_exists'.mp q2.live
          exact ⟨em.trans q1, (q2.mono gle).at' fun o e => inI _ _ e hnL hne, q4, by rw [G.add_ne (oldD _ _ ho' hne)]; exact q5, q6⟩
    · obtain ⟨v1, n1, f1, e1, e1'⟩ := freeOf z u h1 h3
      obtain ⟨v2, n2, f2, e2, e2'⟩ := freeOf z' u' h2 h4
      have em1 : m' z = m z := by simp only [m', if_neg e1, if_neg e1']
      have em2 : m' z' = m z' := by simp only [m', if_neg e2, if_neg e2']
      exact wA.sep z v1 z' v2 p n1 n2 f1 f2 (em1.symm.trans h5) (em2.symm.trans h6)
  exact ⟨hI, _, _, m', σ', .next, rfl, w', .next, k⟩
theorem SX.try_if2 (ok : c.Ok) {t e₁ e₂ : Expr} {x : Str} {b : Bool} {p1 p2 p3 p4 pi pos : Pos} {d : D} {hd : ExceptHandler} {hs : List ExceptHandler} (ht : EVB c σ t b) (h1 : b = true → EX c σ e₁ d σ₁) (h2 : b = false → EX c σ e₂ d σ₁) (hu : Upd σ₁ x (.val d) σ')
    (hw1 : swapsWith e₁ (some (.Name x p1)) p2.line c.env = pure false) (hw2 : swapsWith e₂ (some (.Name x p3)) p4.line c.env = pure false) (k : SX c E σ' rest Φ) :
    SX c E σ (.Try [.If t [.Assign [.Name x p1] e₁ p2] [.Assign [.Name x p3] e₂ p4] pi] (hd :: hs) [] [] pos :: rest) Φ := by
  cases b with
  | true => exact SX.try_if ok ht rfl (h1 rfl) hu hw1 k
  | false => exact SX.try_if ok ht rfl (h2 rfl) hu hw2 k
theorem SX.try_catch2 (ok : c.Ok) (r : CfgR c []) (hcl : c.env.cells = []) (hfp : c.fp = [c.env.locals]) {t e₁ e₂ : Expr} {x y er : Str} {b : Bool} {a : ItA} {ds : List D} {ts : List Str} {msg : Str} {p1 p2 p3 p4 pi ep p6 p7 p8 p9 p10 p11 hp pos : Pos}
    (hve : GL c "ValueError" none) (hst : GL c "str" none) (ht : EVB c σ t b) (h1 : b = true → EXW c [] σ e₁ a (ts.map .str) msg) (h2 : b = false → EXW c [] σ e₂ a (ts.map .str) msg)
    (hl : Loc σ y (.it a ds)) (hu1 : Upd σ y (.it a (ts.map .str)) σ₁) (hu2 : Upd σ₁ x (.val (.list [.str msg])) σ') (hyx : y ≠ x) (hex : er ≠ x) (hey : er ≠ y) (hlx : c.env.kindOf x = some .local) (hle : Loc σ er .un) (hlk : c.env.kindOf er = some .local)
    (hw1 : swapsWith e₁ (some (.Name x p1)) p2.line c.env = pure false) (hw2 : swapsWith e₂ (some (.Name x p3)) p4.line c.env = pure false)
    (hsw2 : swapsWith (.List [.Call (.Name "str" p7) [.Name er p8] [] p9] p10) (some (.Name x p6)) p11.line c.env = pure false)
    (k : SX c E σ' rest Φ) :
    SX c E σ (.Try [.If t [.Assign [.Name x p1] e₁ p2] [.Assign [.Name x p3] e₂ p4] pi] [.ExceptHandler (some (.Name "ValueError" ep)) (some er) [.Assign [.Name x p6] (.List [.Call (.Name "str" p7) [.Name er p8] [] p9] p10) p11] hp] [] [] pos :: rest) Φ := by
  cases b with
  | true => exact SX.try_catch ok r hcl hfp hve hst ht rfl hw1 (h1 rfl) hl hu1 hu2 hyx hex hey hlx hle hlk hsw2 k
  | false => exact SX.try_catch ok r hcl hfp hve hst ht rfl hw2 (h2 rfl) hl hu1 hu2 hyx hex hey hlx hle hlk hsw2 k
end
end Mine
namespace Mine
/-- what a def of the text gives that the claim itself calls -/
noncomputable def FNG (prog : Program) (w : World) (h₁ : Heap) (f : Addr) (n : Nat) (args : List D) (r : D) : Prop :=
  ∀ (A : Around) (s : Shared) (g : G) (vs : List Value) (Q E : Value → Shared → Prop), A.handled = none → A.frames = some [] → A.depth + n < recursionLimit → A.units + 8 * n + 64 < cLine → Keep h₁ s.heap → g.In s.heap → Reps g vs args →
    (∀ v h' g' tk, Keep s.heap h' → g'.In h' → Le g g' → (∀ b, s.heap.get? b ≠ none → g' b = g b) → Rep g' v r → Q v { s with heap := h', toks := tk }) → wpG true (model prog w) A (call (.ref f) vs) Q E s
theorem FNG.of_body {prog : Program} {w : World} {h₁ : Heap} {mg mb : Str → Option Value} {f : Addr} {n : Nat} {args : List D} {r : D} {o : Obj} {fd : FuncData} {body : List Stmt} {params names : List Str}
    (hst : Stat h₁ mg mb) (ho : h₁.get? f = some o) (hdata : o.data = .func fd) (hcd : h₁.CodeRec fd.code fd.qualname) (hbody : fd.body = .stmts body)
    (hgl : fd.globals = mainGlobals) (hcl : fd.closure = []) (hbl : fd.builtins = builtinsNs)
    (hlen : params.length = args.length)
    (hbind : ∀ (s : Shared) (vs : List Value), vs.length = params.length → BindsTo s fd ⟨vs, []⟩ (params.zip vs))
    (hcell : ∀ x ∈ fd.scope.names, x.2 ≠ .cell) (hloc : ∀ x ∈ params ++ names, fd.scope.names.lookup x = some .local ∧ (x == ("__debug__" : Str)) = false) (hnod : (params ++ names).Nodup)
    (hco : fd.scope.isCoroutine = false) (hgen : fd.scope.isGenerator = false) (hk : fd.scope.kind = .function)
    (hsx : ∀ (c : Cfg), c.Ok → c.Is prog w h₁ mg → CfgR c [] → c.env.cells = [] → c.fp = [c.env.locals] → c.env.scope = fd.scope → c.A.depth + n < recursionLimit → c.A.units + 8 * n + 64 < cLine → SX c (fun _ _ => False) (startSig names params args) body (fun fl _ => fl = .ret r)) :
    FNG prog w h₁ f (n + 1) args r := by
  intro A s g vs Q E hh hfr hd hu hk₁ hg hr q
  refine wpG.call (codeG.call (fd := fd) (body := body) (binds := params.zip vs) (by omega) (hk₁ _ _ ho) hdata (hst.nolimit.keeps hk₁) (hcd.keeps hk₁) hbody (hbind s vs (by rw [hlen, hr.length])) hcell (fun x hx => (hloc _ (List.mem_append_left _ (List.of_mem_zip hx).1)).1) (fun h₀ hns hk₂ => ?_) hco hgen hk)
  generalize henv : callEnv fd s.heap.objs.size f = env
  have e1 : env.scope = fd.scope := by rw [← henv]; rfl
  have e2 : env.locals = s.heap.objs.size := by rw [← henv]; rfl
  have e3 : env.globals = mainGlobals := by rw [← henv]; exact hgl
  have e4 : env.builtins = builtinsNs := by rw [← henv]; exact hbl
  have e5 : env.cells = [] := by rw [← henv]; exact hcl
  have hL0 : s.heap.get? s.heap.objs.size = none := Heap.get?_none_of_le (Nat.le_refl _)
  have hLl : h₀.get? s.heap.objs.size ≠ none := by obtain ⟨o, _, _, e, _⟩ := hns; rw [e]; exact fun e => nomatch e
  have e6 : env.frame = some env.locals := by rw [← henv]; rfl
  have hkeys := startSig_keys (names := names) hlen
  have hw : W { prog := prog, w := w, A := A.deeper env, h₁ := h₁, mg := mg, mb := mb, env := env, fp := [s.heap.objs.size], cal := true } (fun b => s.heap.get? b) (fun b => s.heap.get? b ≠ none ∧ g b = none) g (fun x => (params.zip vs).reverse.lookup x) (startSig names params args) h₀ := by
    refine { base := fun b o e => hk₁ _ _ e, kin := fun b o e => hk₂ _ _ e, gin := fun b o e => hk₂ _ _ (hg _ _ e), fpk := fun p hp => ?_, fpl := fun p hp => ?_, nN := fun b hb => ⟨hb.1, hb.2⟩, fr := ⟨⟨_, e2 ▸ hns, fun _ _ => rfl⟩, fun x p _ h => ?_⟩, cel := fun x p h => ?_, Lfp := by show env.locals ∈ _; rw [e2]; exact .head _, nod := by rw [hkeys]; exact hnod, lcl := ?_, loc := startSig_holds hr fun x u hm => zip_lookup (List.nodup_append.mp hnod).1 (by rw [hlen, ← hr.length]) hm, sep := fun x u y v a hx _ hf => ?_ }
    · rw [List.mem_singleton.mp hp]; exact ⟨hL0, hg.none_size⟩
    · rw [List.mem_singleton.mp hp]; exact hLl
    · dsimp only at h; rw [e5] at h; cases h
    · dsimp only at h; rw [e5] at h; cases h
    · rw [hkeys]; intro x hx; refine ⟨.inl ?_, (hloc x hx).2⟩; dsimp only; unfold Env.kindOf; rw [e1]; exact (hloc x hx).1
    · rw [startSig_free hx] at hf; cases hf
  refine wpG.mono (hsx { prog := prog, w := w, A := A.deeper env, h₁ := h₁, mg := mg, mb := mb, env := env, fp := [s.heap.objs.size], cal := true } ⟨⟨hst, by dsimp only; rw [e1]; exact hk, e3, e4, hh, by show A.units + 3 + 64 < _; omega, by show A.depth + 1 < _; omega⟩, by dsimp only; rw [e2]; exact .head _, fun x p h => (by dsimp only at h; rw [e5] at h; cases h), fun x y p h => (by dsimp only at h; rw [e5] at h; cases h), fun x p h => (by dsimp only at h; rw [e5] at h; cases h)⟩ ⟨rfl, rfl, rfl, rfl⟩ ⟨Around.frames_deeper hfr, e6, (by dsimp only; rw [e1, hk]; decide), ⟨trivial, fun b o hb => by cases hb⟩, rfl⟩ e5 (by dsimp only; rw [e2]) e1 (by show A.depth + 1 + n < _; omega) (by show A.units + 3 + 8 * n + 64 < _; omega) (fun b => s.heap.get? b) (fun b => s.heap.get? b ≠ none ∧ g b = none) g _ { s with heap := h₀, toks := s.toks + (params.zip vs).length } hw) (fun fl s' hf => ?_) fun _ _ e => wpAny_mono e (fun _ _ ⟨_, _, _, q⟩ => q.elim) fun _ _ q => q.elim
  obtain ⟨h', tk, g', m', σ', af, rfl, w', hfl, rfl⟩ := hf
  cases hfl with
  | ret hv =>
    have hkeep : Keep s.heap h' := fun b o e => w'.kin b o e
    have hgi : g.In h' := hg.keep hkeep
    refine q _ h' (g.or g') tk hkeep (hgi.or w'.gin) (Le.or_left _ _) (fun b hb => ?_) (hv.mono (Le.or_right hgi w'.gin))
    cases e : g b with
    | some o => exact Le.or_left _ _ _ _ e
    | none => exact G.or_none e (w'.nN b ⟨hb, e⟩).2
end Mine
namespace Mine
local macro_rules | `(tactic| walk_at "loc") => `(tactic| first | with_reducible exact Loc.head | (with_reducible apply Loc.tail; walk_at "loc"))
local macro_rules | `(tactic| walk_at "locd") => `(tactic| first | exact Loc.head | (with_reducible apply Loc.tail; walk_at "locd"))
local macro_rules | `(tactic| walk_at "upd") => `(tactic| first | with_reducible exact Upd.head | (with_reducible apply Upd.tail; walk_at "upd"))
theorem eqSelf {c : Cfg} (ok : c.Ev) {d : D} (h : d.pure = true) (hd : d.toPy.depth ≤ 64) : OP2 c (compareOp .NotEq) d d (.bool false) := by
  have := OP2.ne_data (c := c) ok h h (by rw [Nat.min_self]; exact hd)
  rw [PySem.SeqAt.eqv_refl _ (D.canLay d h)] at this; exact this
theorem strsDepth (xs : List Str) : (dstrs xs).toPy.depth ≤ 64 := by
  show (PyData.list (D.toPys (xs.map .str))).depth ≤ 64
  rw [toPys_strs, PyData.depth, depthAll_scalar _ fun _ => rfl]; omega
noncomputable def cells01 (ns : List Int) : List Int := ns.take 14 ++ [0, 4, 197, 2, 13, 9, 1, 23, 19, 2198, 24, 3, 29, 223]
noncomputable def prios1 : List Int := [-1, -1, -1, 0, 0, 1, 2, 3, 4, 4, 5, 6, 7]
theorem prio1_at (k : Nat) (hk : k < 13) : ∃ v, prios1[k]? = some v ∧ v ≤ 7 := by
  have all : ∀ k : _root_.Fin 13, (prios1[k.val]?).elim false (fun v => decide (v ≤ 7)) = true := by decide +kernel
  have := all ⟨k, hk⟩
  dsimp only at this
  cases h : prios1[k]? with
  | none => rw [h] at this; cases this
  | some v => rw [h] at this; exact ⟨v, rfl, of_decide_eq_true this⟩
theorem ok1_repr {t : Str} (h : Ok1 t) : Repr1 t := by
  have h1 := StrLaws.reprText_len t fun c hc => by
    have := h.ok
    unfold PyData.strOk at this
    rw [Array.all_eq_true_iff_forall_mem] at this
    have := of_decide_eq_true (this c (by simpa using hc))
    omega
  have := h.len
  unfold Repr1
  rw [sizeLine_eq]; omega
theorem row01_row (cells : List Int) : Row (row01 cells) := ⟨(row01_ok cells).1, .inr ⟨_, rfl⟩⟩
noncomputable abbrev sigL (ns : List Int) (cells left calls k priority at_ words wanted source told : AV) : Sig :=
  [(tk "script", .val (.list (ns.map .int))), (tk "cells", cells), (tk "left", left), (tk "calls", calls), (tk "k", k), (tk "priority", priority), (tk "at", at_), (tk "words", words), (tk "wanted", wanted), (tk "source", source), (tk "told", told), (tk "error", .un)]
set_option maxHeartbeats 4000000 in
theorem law_fn {w : World} {h₁ : Heap} {mg mb : Str → Option Value} (KX : (hd.heap_39 w.params).In h₁) (st : Stat h₁ mg mb) (ns : List Int) (hns : ns.length ≤ 9000) : FNG prg w h₁ 160 251 [.list (ns.map .int)] (.bool true) := by
  refine FNG.of_body (params := [tk "script"]) (names := [tk "cells", tk "left", tk "calls", tk "k", tk "priority", tk "at", tk "words", tk "wanted", tk "source", tk "told", tk "error"]) st (KX 160 _ rfl) rfl (codeRec_of KX rfl) rfl rfl rfl rfl rfl (bind_one fun _ => rfl) (by decide) (by decide) (by decide) rfl rfl rfl ?_
  intro c ok is r hcl hfp hs hdp hun
  have ev := ok.toEv
  have gl : ∀ {x : Str} {v : Option Value}, (fdOf (hd.heap_39 w.params) 160).scope.names.lookup x = some .globalImplicit → (x == ("__debug__" : Str)) = false → mg x = v → GL c x v := fun h1 h2 h3 => GL.of is hs h1 h2 h3
  have g_row : GL c "_law_row" (some (.ref 106)) := gl rfl rfl ((glob_at KX st.g rfl rfl _).trans rfl)
  have g_walk : GL c "_law_walk" (some (.ref 120)) := gl rfl rfl ((glob_at KX st.g rfl rfl _).trans rfl)
  have g_write : GL c "_law_write" (some (.ref 153)) := gl rfl rfl ((glob_at KX st.g rfl rfl _).trans rfl)
  have g_parse : GL c "_parse" (some (.ref 85)) := gl rfl rfl ((glob_at KX st.g rfl rfl _).trans rfl)
  have g_iter : GL c "iter" none := gl rfl rfl ((glob_at KX st.g rfl rfl _).trans rfl)
  have g_list : GL c "list" none := gl rfl rfl ((glob_at KX st.g rfl rfl _).trans rfl)
  have g_len : GL c "len" none := gl rfl rfl ((glob_at KX st.g rfl rfl _).trans rfl)
  have g_range : GL c "range" none := gl rfl rfl ((glob_at KX st.g rfl rfl _).trans rfl)
  have g_str : GL c "str" none := gl rfl rfl ((glob_at KX st.g rfl rfl _).trans rfl)
  have g_ve : GL c "ValueError" none := gl rfl rfl ((glob_at KX st.g rfl rfl _).trans rfl)
  have k_told : c.env.kindOf (tk "told") = some .local := by unfold Env.kindOf; rw [hs]; rfl
  have k_err : c.env.kindOf (tk "error") = some .local := by unfold Env.kindOf; rw [hs]; rfl
  have hcl28 : (cells01 ns).length ≤ 28 ∧ 1 ≤ (cells01 ns).length := by unfold cells01; simp; omega
  have hrow := row01_row (cells01 ns)
  have hrl := (row01_ok (cells01 ns)).2
  show SX c _ (sigL ns .un .un .un .un .un .un .un .un .un .un) _ _
  with_reducible refine SX.assign (d := .list ((cells01 ns).map .int)) (σ' := sigL ns (.val (.list ((cells01 ns).map .int))) .un .un .un .un .un .un .un .un .un) ok ?_ ?_ ?_ ?_
  · exact EV.cells (tail := [0, 4, 197, 2, 13, 9, 1, 23, 19, 2198, 24, 3, 29, 223]) ev (by walk_at "loc") rfl (by simp; omega)
  · walk_at "upd"
  · rfl
  generalize hC : cells01 ns = C at hcl28 hrow hrl
  have hrf := row_fn KX st C (by omega)
  generalize row01 C = L at hrow hrl hrf
  have hLl : L.length ≤ 86 := by omega
  refine SX.assign (d := .list (L.map .str)) ok (EV.call ev is g_row ⟨_, _, KX 106 _ rfl, rfl⟩ (EVs.cN (EV.name ev (d := .list (C.map .int)) (by walk_at "loc")) .nil) hrf (by omega) (by omega)) (by walk_at "upd") rfl ?_
  refine SX.assign (d := .int (L.length : Int)) ok (EV.cast (EV.len ev g_len (EVs.cN (EV.name ev (d := .list (L.map .str)) (by walk_at "loc")) .nil) (by simp; omega)) (by simp)) (by walk_at "upd") rfl ?_
  refine SX.forIn ok (ds := upto L.length) (fun i σ => ∃ (lft : List Str) (vk vp va vw vn vs vt : AV), σ = sigL ns (.val (.list (C.map .int))) (.val (.list (lft.map .str))) (.val (.int (L.length : Int))) vk vp va vw vn vs vt ∧ lft.length + i ≤ L.length ∧ Row lft)
    (IT.range (n := L.length) ev g_range (.one (EV.name ev (by walk_at "loc")) (fun _ => rfl)) (by omega)) ⟨L, _, _, _, _, _, _, _, rfl, by omega, hrow⟩ ?_ ?_ (fun _ => rfl)
  · rintro i dd σ₁ hd ⟨lft, vk, vp, va, vw, vn, vs, vt, rfl, hll, hlg⟩
    obtain ⟨rfl, hi⟩ := upto_get hd
    refine ⟨sigL ns (.val (.list (C.map .int))) (.val (.list (lft.map .str))) (.val (.int (L.length : Int))) (.val (.int (i : Int))) vp va vw vn vs vt, by walk_at "upd", ?_⟩
    refine SX.ite (b := (lft.map D.str).isEmpty) (EVB.compare (EV.name ev (by walk_at "loc")) (EV.list .nil (by simp)) (OP2.eq_nil ev) rfl) (fun _ => SX.ret EV.const_bool rfl) (fun hne => ?_)
    have hne : lft ≠ [] := fun e => by subst e; simp at hne
    refine SX.nil ?_
    have r1 := fmod_range (i : Int) (m := (C.length : Int)) (by omega)
    have hcx : C[((i : Int).fmod C.length).toNat]? = some C[((i : Int).fmod C.length).toNat] := List.getElem?_eq_getElem (by omega)
    generalize C[((i : Int).fmod C.length).toNat] = cv at hcx
    have r2 := fmod_range cv (m := 13) (by decide)
    obtain ⟨q, hq, hq7⟩ := prio1_at (cv.fmod 13).toNat (by omega)
    refine SX.assignMenu (is := prios1) ok ?_ (EV.binop (EV.item (EV.name ev (by walk_at "loc")) (EV.binop (EV.name ev (by walk_at "loc")) (EV.cast (EV.len ev g_len (EVs.cN (EV.name ev (d := .list (C.map .int)) (by walk_at "loc")) .nil) (by simp; omega)) (d' := .int (C.length : Int)) (by simp)) (OP2.mod_int (by omega))) (by omega) (by simp; omega) (by simp; omega) (d := .int cv) (by unfold idx; rw [if_neg (by omega), List.getElem?_map, hcx]; rfl) (fun _ _ => rfl)) EV.const_int (OP2.mod_int (by decide))) r2.1 hq (by decide) (fun _ _ => rfl) (by walk_at "upd") ?_
    · exact .neg (.neg (.neg (.pos (.pos (.pos (.pos (.pos (.pos (.pos (.pos (.pos (.pos .nil))))))))))))
    have hsml : Smalls lft := fun t ht => ⟨(hlg.1 t ht).len, (hlg.1 t ht).val⟩
    have hrp : ∀ t ∈ lft, Repr1 t := fun t ht => ok1_repr (hlg.1 t ht)
    have hwalk := walk_fn KX st lft q (by omega) fun t ht => by have := (hlg.1 t ht).len; omega
    have hlw : lft.length ≤ 86 := by omega
    rcases plain01 hlg hne hlw hq7 with ⟨used, nx, rest, text, e1, e2, e3, e4, e5, e6, e7⟩ | ⟨used, x, rest, msg, e1, e2, e3, e4, e5, e6, e7⟩
    · have hlen : lft.length = used.length + 1 + rest.length := by rw [e1]; simp; omega
      rw [e2] at hwalk
      refine SX.unpack2X (d₁ := .int (used.length : Int)) (d₂ := .str (tk "")) ok (EV.toEX (EV.call ev is g_walk ⟨_, _, KX 120 _ rfl, rfl⟩ (EVs.cN (EV.name ev (d := .list (lft.map .str)) (by walk_at "loc")) (EVs.cN (EV.name ev (by walk_at "loc")) .nil)) hwalk (by omega) (by omega))) (by walk_at "upd") (by walk_at "upd") rfl rfl ?_
      refine SX.assign (d := .list [.str (tk "")]) ok (EV.list (EVs.cN (EV.name ev (by walk_at "loc")) .nil) (by simp)) (by walk_at "upd") rfl ?_
      refine SX.ite_true (EVB.cast (EVB.compare (EV.name ev (by walk_at "loc")) EV.const_str OP2.eq_str rfl) (by decide +kernel)) ?_
      have hcut1 : cut none (some (used.length : Int)) (lft.map D.str) = used.map D.str := by rw [cut_map, cut_take (by omega), e1]; simp
      have hcut2 : cut (some ((used.length : Int) + 1)) none (lft.map D.str) = rest.map D.str := by
        rw [show ((used.length : Int) + 1) = ((used.length + 1 : Nat) : Int) by simp, cut_map, cut_drop (by omega), e1]
        rw [show used ++ nx :: rest = (used ++ [nx]) ++ rest by simp, List.drop_append_of_le_length (by simp), List.drop_of_length_le (by simp), List.nil_append]
      have hut : ∀ t ∈ used, t.length ≤ 64 := fun t ht => (hlg.1 t (by rw [e1]; simp [ht])).len
      refine SX.assign (d := .tup [.str text, .str nx]) ok (EV.tuple (EVs.cF (EV.call ev is g_write ⟨_, _, KX 153 _ rfl, rfl⟩ (EVs.cS (EV.cast (EV.slice (EV.name ev (by walk_at "loc")) .none (.some (EV.name ev (by walk_at "loc"))) (by simp; omega) (fun _ _ => rfl)) (congrArg D.list hcut1)) (EVs.cN (EV.name ev (by walk_at "loc")) .nil)) (write_fn KX st (used.length + 1) used q text e4 (by omega) hut) (by omega) (by omega)) (EVs.cS (EV.item (EV.name ev (by walk_at "loc")) (EV.name ev (by walk_at "loc")) (by omega) (by simp; omega) (by simp; omega) (by rw [idx_nat, List.getElem?_map, e1]; simp) (fun _ _ => rfl)) .nil)) (by simp)) (by walk_at "upd") rfl ?_
      refine SX.nil ?_
      refine SX.iter (ds := lft.map .str) (σ' := fun a => sigL ns (.val (.list (C.map .int))) (.val (.list (lft.map .str))) (.val (.int (L.length : Int))) (.val (.int (i : Int))) (.val (.int q)) (.val (.int (used.length : Int))) (.val (.str (tk ""))) (.val (.tup [.str text, .str nx])) (.it a (lft.map .str)) vt) ok g_iter (EVs.cN (EV.name ev (by walk_at "loc")) .nil) (by simp; omega) (fun a => by walk_at "upd") rfl fun a => ?_
      have good := (parse_fn (w := w) 200 h₁ mg mb KX st q lft hsml hrp (by omega)).1 _ _ _ e3
      refine SX.try_if2 (σ₁ := sigL ns (.val (.list (C.map .int))) (.val (.list (lft.map .str))) (.val (.int (L.length : Int))) (.val (.int (i : Int))) (.val (.int q)) (.val (.int (used.length : Int))) (.val (.str (tk ""))) (.val (.tup [.str text, .str nx])) (.it a (rest.map .str)) vt) (d := .tup [.str text, .str nx]) ok (EVB.compare (EV.name ev (by walk_at "loc")) (EV.neg EV.const_int) OP2.eq_int rfl)
        (fun hb => EX.callP ev is g_parse (parse_isFn KX) (by walk_at "loc") (by walk_at "upd") .nil (good.2 (by simpa using hb)) (by omega) (by omega))
        (fun _ => EX.callP ev is g_parse (parse_isFn KX) (by walk_at "loc") (by walk_at "upd") (EVs.cN (EV.name ev (by walk_at "loc")) .nil) good.1 (by omega) (by omega)) (by walk_at "upd") rfl rfl ?_
      refine SX.assign (d := .list (rest.map .str)) ok (EV.cast (EV.slice (EV.name ev (by walk_at "loc")) (.some (EV.binop (EV.name ev (by walk_at "loc")) EV.const_int OP2.add_int)) .none (by simp; omega) (fun _ _ => rfl)) (congrArg D.list hcut2)) (by walk_at "upd") rfl ?_
      have hp1 : (.tup [.str text, .str nx] : D).pure = true := by
        show (PyData.strOk text && (PyData.strOk nx && true)) = true
        rw [e6, e7]; rfl
      have hp2 : (.tup [.str text, .str nx] : D).toPy.depth ≤ 64 := by simp [D.toPy, D.toPys, PyData.depth, PyData.depthAll]
      refine SX.iteX (b := false || false) (σ₁ := sigL ns (.val (.list (C.map .int))) (.val (.list (rest.map .str))) (.val (.int (L.length : Int))) (.val (.int (i : Int))) (.val (.int q)) (.val (.int (used.length : Int))) (.val (.str (tk ""))) (.val (.tup [.str text, .str nx])) .un (.val (.tup [.str text, .str nx]))) (EXB.orX (b := false) (b' := false) (EVB.toEXB (EVB.compare (EV.name ev (by walk_at "loc")) (EV.name ev (by walk_at "loc")) (eqSelf ev hp1 hp2) rfl)) (fun _ => EXB.cmpX (EX.listIt ev g_list (by walk_at "loc") (by walk_at "upd")) (EV.name ev (d := .list (rest.map .str)) (by walk_at "loc")) (eqSelf ev (d := dstrs rest) (pures_strs _ fun t ht => (e5.1 t ht).ok) (strsDepth _)) rfl) (fun h => nomatch h)) (fun h => nomatch h) (fun _ => SX.nil ?_)
      exact SX.nil ⟨rest, _, _, _, _, _, _, _, rfl, by omega, e5⟩
    · have hlen : lft.length = used.length + 1 + rest.length := by rw [e1]; simp; omega
      rw [e2] at hwalk
      refine SX.unpack2X (d₁ := .int (used.length : Int)) (d₂ := .str msg) ok (EV.toEX (EV.call ev is g_walk ⟨_, _, KX 120 _ rfl, rfl⟩ (EVs.cN (EV.name ev (d := .list (lft.map .str)) (by walk_at "loc")) (EVs.cN (EV.name ev (by walk_at "loc")) .nil)) hwalk (by omega) (by omega))) (by walk_at "upd") (by walk_at "upd") rfl rfl ?_
      refine SX.assign (d := .list [.str msg]) ok (EV.list (EVs.cN (EV.name ev (by walk_at "loc")) .nil) (by simp)) (by walk_at "upd") rfl ?_
      refine SX.ite_false (EVB.cast (EVB.compare (EV.name ev (by walk_at "loc")) EV.const_str OP2.eq_str rfl) (beq_eq_false_iff_ne.mpr e3)) ?_
      refine SX.nil ?_
      have hcut2 : cut (some ((used.length : Int) + 1)) none (lft.map D.str) = rest.map D.str := by
        rw [show ((used.length : Int) + 1) = ((used.length + 1 : Nat) : Int) by simp, cut_map, cut_drop (by omega), e1]
        rw [show used ++ x :: rest = (used ++ [x]) ++ rest by simp, List.drop_append_of_le_length (by simp), List.drop_of_length_le (by simp), List.nil_append]
      refine SX.iter (ds := lft.map .str) (σ' := fun a => sigL ns (.val (.list (C.map .int))) (.val (.list (lft.map .str))) (.val (.int (L.length : Int))) (.val (.int (i : Int))) (.val (.int q)) (.val (.int (used.length : Int))) (.val (.str msg)) (.val (.list [.str msg])) (.it a (lft.map .str)) vt) ok g_iter (EVs.cN (EV.name ev (by walk_at "loc")) .nil) (by simp; omega) (fun a => by walk_at "upd") rfl fun a => ?_
      have bad := (parse_fn (w := w) 200 h₁ mg mb KX st q lft hsml hrp (by omega)).2 _ _ e4
      have hly : Loc (sigL ns (.val (.list (C.map .int))) (.val (.list (lft.map .str))) (.val (.int (L.length : Int))) (.val (.int (i : Int))) (.val (.int q)) (.val (.int (used.length : Int))) (.val (.str msg)) (.val (.list [.str msg])) (.it a (lft.map .str)) vt) (tk "source") (.it a (lft.map .str)) := by walk_at "loc"
      refine SX.try_catch2 (y := tk "source") (σ₁ := sigL ns (.val (.list (C.map .int))) (.val (.list (lft.map .str))) (.val (.int (L.length : Int))) (.val (.int (i : Int))) (.val (.int q)) (.val (.int (used.length : Int))) (.val (.str msg)) (.val (.list [.str msg])) (.it a (rest.map .str)) vt)
        ok r hcl hfp g_ve g_str (EVB.compare (EV.name ev (by walk_at "loc")) (EV.neg EV.const_int) OP2.eq_int rfl)
        (fun hb => EXW.callP ok r is g_parse (parse_isFn KX) hly .nil (bad.2 (by simpa using hb)) (fun h => by cases h) (by omega) (by omega))
        (fun _ => EXW.callP ok r is g_parse (parse_isFn KX) hly (EVs.cN (EV.name ev (by walk_at "loc")) .nil) bad.1 (fun h => by cases h) (by omega) (by omega))
        hly (by walk_at "upd") (by walk_at "upd") (by decide +kernel) (by decide +kernel) (by decide +kernel) k_told (by walk_at "loc") k_err rfl rfl rfl ?_
      refine SX.assign (d := .list (rest.map .str)) ok (EV.cast (EV.slice (EV.name ev (by walk_at "loc")) (.some (EV.binop (EV.name ev (by walk_at "loc")) EV.const_int OP2.add_int)) .none (by simp; omega) (fun _ _ => rfl)) (congrArg D.list hcut2)) (by walk_at "upd") rfl ?_
      have hp1 : (.list [.str msg] : D).pure = true := by
        show (PyData.strOk msg && true) = true
        rw [e6]; rfl
      have hp2 : (.list [.str msg] : D).toPy.depth ≤ 64 := by simp [D.toPy, D.toPys, PyData.depth, PyData.depthAll]
      refine SX.iteX (b := false || false) (σ₁ := sigL ns (.val (.list (C.map .int))) (.val (.list (rest.map .str))) (.val (.int (L.length : Int))) (.val (.int (i : Int))) (.val (.int q)) (.val (.int (used.length : Int))) (.val (.str msg)) (.val (.list [.str msg])) .un (.val (.list [.str msg]))) (EXB.orX (b := false) (b' := false) (EVB.toEXB (EVB.compare (EV.name ev (by walk_at "loc")) (EV.name ev (by walk_at "loc")) (eqSelf ev hp1 hp2) rfl)) (fun _ => EXB.cmpX (EX.listIt ev g_list (by walk_at "loc") (by walk_at "upd")) (EV.name ev (d := .list (rest.map .str)) (by walk_at "loc")) (eqSelf ev (d := dstrs rest) (pures_strs _ fun t ht => (e5.1 t ht).ok) (strsDepth _)) rfl) (fun h => nomatch h)) (fun h => nomatch h) (fun _ => SX.nil ?_)
      exact SX.nil ⟨rest, _, _, _, _, _, _, _, rfl, by omega, e5⟩
  · rintro σ₁ ⟨lft, vk, vp, va, vw, vn, vs, vt, rfl, hll, _⟩
    rw [upto_length] at hll
    have : lft = [] := List.length_eq_zero_iff.mp (by omega)
    subst this
    exact SX.ret (EV.compare (EV.name ev (by walk_at "loc")) (EV.list .nil (by simp)) (OP2.eq_nil ev) rfl) rfl
end Mine
open PySem PySem.W PySem.Calls PyProof.Rows PyProof
namespace Mine
/-- a claim's caller stands at the bottom of its own run -/
theorem led_caller : Led true (⟨.builtin "claim.caller" {}, none, none, [], none⟩ : Ctx) := fun _ => rfl
/-- a run beneath the claim's caller comes to its end -/
theorem ends_led {prog : Program} {w : World} {t : Sem PySem.Fin} {s : Shared} {R : Result → Shared → Prop} (hz : s.asleep)
    (h : wpG true (model prog w) callerA t (fun fin s' => ∃ f, fin = .done f ∧ R (.ok f) s' ∧ AllBare s'.gens) (fun e s' => R (.error e) s' ∧ AllBare s'.gens) s) :
    ∃ n r s' s'', schedN (denote table) prog w n (.single s ⟨t, .builtin "claim.caller" {}, default, []⟩) = .halted (outcomeOf r) s' ∧ s'.heap.life = s.heap.life ∧ s'.forget = s''.forget ∧ R r s'' := by
  have h0 := h _ default caller_in led_caller
  obtain ⟨n, r, s₁, s₂, hs, hn, hfo, hR⟩ := wp_halts_full (M := model prog w) (R := R) hz (Sem.wp_mono _ _ t (fun fin p s' hq => by
    obtain ⟨f, rfl, h1, h2⟩ := hq
    exact ⟨h1, leftWithCleanup_false_of_bare h2⟩) (fun e p s' hq => ⟨hq.1, leftWithCleanup_false_of_bare hq.2⟩) _ _ h0)
  exact ⟨n, r, s₂, s₁, hs, runN_life _ _ _ hn, hfo, hR⟩
/-- the road from the walk of a law to its claim, where the walk leans on the caller -/
theorem holds_led {r : OpenRow} {q : Program} {loose : List Str} {Xt : Shared → Bool} {XP : (Str → Option Value) → Heap → Prop} {α : Type} {Yf : Shared → α} {Ya : World → α} {YP : World → Heap → Prop} {d : DefRec} {kwd : List (Str × Expr)} {N : Nat}
    (left : LeftO r.prog q loose Xt Yf Ya N) (hY : ∀ w s, Yf s = Ya w → YP w s.heap) (hYk : ∀ w h h', YP w h → (∀ b o, h.get? b = some o → h'.get? b = some o) → YP w h')
    (hX : ∀ s, Xt s = true → XP (s.heap.nsMap mainGlobals) s.heap) (hXk : ∀ mg h h', XP mg h → (∀ b o, h.get? b = some o → h'.get? b = some o) → XP mg h')
    (hdef : defOf q r.name = some (d, kwd)) (hp : r.prog.theDef r.name = some (d.params, d.body, d.scope)) (hk : kwWritten? d.params.kwonlyargs d.params.kw_defaults = some kwd) (hRf : ∀ s, Xt s = true → RecFacts r.records s.heap) (hwr : (!r.writes || r.records.isEmpty) = true)
    (k1 : r.wellSaid = true) (ok : (chainsOk q && opensWell r.prog && (frees r.toRowW && r.within.isEmpty)) = true) (hb : r.prog.bare) (hw : r.toRowW.promised)
    (call : ∀ (w : World) (s₀ s₁ : Shared) (mg mb : Str → Option Value), Ground q loose r.records XP w s₀ mg mb s₁.heap → YP w s₁.heap → ∀ (a : Addr) (o : Obj) (pm cd doc dV kV : Value), s₁.heap.get? a = some o →
      o.data = .func { docDef d.name d.params d.body d.scope pm cd doc with defaults := dV, kwdefaults := kV } → s₁.heap.CodeRec cd d.name → Dflts mg s₁.heap d.params kwd dV kV → mg d.name = some (.ref a) → s₁.gens = #[] →
      ∀ (args : List WData) (vals : List Value) (as : List Addr), r.toRowW.claim.pre args = true → WData.layableAll args = true → ReadsAllW r.records (classAt s₀.heap) s₁.heap vals args as → WellAll w.params s₁.heap vals args → (∀ a ∈ as, (a == sysModules) = false) →
        wpG true (model r.prog w) callerA (PySem.call (.ref a) vals) (fun v s' => GoodWG r.toRowW.claim (classAt s₀.heap) (ExcName.means s₀.heap) args s₁ (.ok (.ret v)) s')
          (fun e s' => GoodWG r.toRowW.claim (classAt s₀.heap) (ExcName.means s₀.heap) args s₁ (.error e) s') s₁) : r.Holds := by
  obtain ⟨ok1, ok2⟩ := Bool.and_eq_true_iff.mp ok
  obtain ⟨hch, hop⟩ := Bool.and_eq_true_iff.mp ok1
  obtain ⟨hfree, hwith⟩ := Bool.and_eq_true_iff.mp ok2
  obtain ⟨hsame, hun, hal, hap, hmk⟩ := frees_parts hfree
  refine ⟨k1, hw, ⟨hb, hop, by show r.toRowW.makers.map _ = []; rw [hmk]; rfl⟩, hw.witness, fun w => ⟨(left.behind hX hch w).1, fun s' hs' => ?_⟩⟩
  obtain ⟨s₀, hf, hg0, s, hT, hz, hgens, hg, G, y⟩ := (left.behind (XP := fun mg h => XP mg h ∧ RecFacts r.records h) (fun s hs => ⟨hX s hs, hRf s hs⟩) hch w).2 s' hs'
  have G0 : Ground q loose [] XP w s (s.heap.nsMap mainGlobals) (s.heap.nsMap builtinsNs) s.heap := ⟨G.T, G.B, G.D, G.TE, G.TD, G.W, G.X.1, G.cls, G.has, G.apart, G.once, G.K⟩
  have RF := G.X.2
  have hge : s.gens = #[] := Array.eq_empty_of_size_eq_zero (beq_iff_eq.mp hgens)
  refine ⟨s₀, hf, hg0, s, hT, fun n hn => ?_, RF.1, RF.2.1, fun args hpre hlay ord hord => ?_⟩
  · obtain rfl : n = r.name := by split at hn <;> simp_all
    exact pinned_of_view hg G0 hdef hp hk
  have G1 : Ground q loose r.records XP w s _ _ s.heap := RF.ground G0
  obtain ⟨⟨vs, s₁⟩, hlaid⟩ := Option.isSome_iff_exists.mp (layAllW_isSome (P := w.params) (ord := ord) G1.has args r.args s (pre_splitW hpre).1)
  have kl := layAllW_keeps _ _ _ hlaid
  have hrest := layAllW_rest _ _ _ hlaid
  obtain ⟨as, hrd, hin, hold⟩ := reads_layAllW hord _ _ _ hlaid hlay s₁.heap (fun _ _ e => e)
  have L : Laid r.records w s s₁ args vs as := ⟨⟨ord, hord, hlaid⟩, hrd, hin, hold, kl, hrest.1.trans hge, hrest.2.2.1⟩
  have G2 := G1.keeps hXk kl
  obtain ⟨a, o, pm, cd, doc, dV, kV, h1, h2, h3, h4, h5⟩ := G2.fn hdef
  have h := call w s s₁ _ _ G2 (hYk _ _ _ (hY w s y) kl) a o pm cd doc dV kV h2 h3 h4 h5 (defOf_name hdef ▸ h1) L.gens args vs as hpre hlay L.reads L.well (L.low G1.low)
  have hid := ident_freeW hun hal hap
  have hwi : r.toRowW.claim.within = [] := List.isEmpty_iff.mp hwith
  have fin : ∀ (res : Result) (s' : Shared), GoodWG r.toRowW.claim (classAt s.heap) (ExcName.means s.heap) args s₁ res s' →
      (r.toRowW.claim.Ends s args vs s₁ res s' ∧ s'.os = s.os ∧ (r.writes = true → namesKept r.prog r.keeps s.heap s'.heap ∧ ∀ x ∈ r.records, ∀ a, classAt s.heap x.1 = some a → recordClass s'.heap a x.1 (x.2.map (·.1)) = true)) ∧ AllBare s'.gens := fun res s' g => by
    have z := g.laid (c := r.toRowW.claim) hsame hwi hid L
    exact ⟨⟨z.1, z.2.1, fun hq => ⟨namesKept_of hT hg r.keeps kl g.2.1.old, noTable hwr hq⟩⟩, z.2.2⟩
  obtain ⟨n, res, s2, s3, hsched, hlife, hfo, hcase, hos, hkp⟩ := ends_led (prog := r.prog) (w := w) (s := s₁) (t := (callStub r.name vs).cur)
    (R := fun res s' => r.toRowW.claim.Ends s args vs s₁ res s' ∧ s'.os = s.os ∧ (r.writes = true → namesKept r.prog r.keeps s.heap s'.heap ∧ ∀ x ∈ r.records, ∀ a, classAt s.heap x.1 = some a → recordClass s'.heap a x.1 (x.2.map (·.1)) = true))
    (Shared.asleep_of_life hrest.2.2.2 hz) (by
      show wpG true _ _ (do match ← nsGet mainNs r.name with
        | some f => do ret (← PySem.call f vs)
        | none => unsupported "claim.caller:no-such-global") _ _ _
      refine .seq (wpAny_nsGet G2.T.g ?_)
      rw [h1]
      exact .bind (h.mono (fun v s' g => .pure ⟨_, rfl, fin _ _ g⟩) fun e s' g => fin _ _ g))
  obtain ⟨eh, _, _, eo, _⟩ := Shared.forget_eq hfo
  have hcase := hcase.congr eh
  rw [← eo] at hos
  rw [← eh] at hkp
  refine ⟨vs, s₁, hlaid, n, _, s2, hsched, ?_, (fun _ i x hx => by rw [hge] at hx; simp at hx), hkp, by rw [hlife, hrest.2.2.2], Shared.rest_eq hos⟩
  rcases hcase with ⟨v, rfl, d1, d2, d3, d4, d5⟩ | ⟨e, ob, cls, rfl, d1, d2, d3, d4, d5⟩
  · exact .inl ⟨v, rfl, d1, d2, d3, fun b o y _ => d4 b o y, d5⟩
  · exact .inr ⟨e, ob, cls, rfl, d1, d2, d3, d4, fun b o y _ => d5 b o y⟩
end Mine
namespace Mine
theorem Reps.of_ints {g : G} : ∀ {vs : List Value} {xs : List Int}, IntsAre vs xs → Reps g vs (xs.map .int) := by
  intro vs xs h
  induction h with
  | nil => exact .nil
  | cons _ _ _ ih => exact .cons (.int _ _) ih
theorem law_said : OpenLaw.wellSaid PySem.Challenge.rw_lo0003_01 = true := by kernel_rfl
end Mine
open Mine
set_option maxHeartbeats 4000000 in
theorem PySem.Challenge.cw_lo0003_01_holds : PySem.Challenge.rw_lo0003_01.Holds := by
  w_on
  refine holds_law law_said fun said => ?_
  refine holds_led (q := Mine.hd.view_39) (loose := hLoose) (Xt := hX) (XP := XL Mine.hd.view_39 []) (Yf := hHook.obs) (Ya := hHook.val) (YP := hHook.says) (N := 4046) left (Hook.of hHook) (Hook.keeps hHook) (fun s e => xl_of s (Bool.and_eq_true_iff.mp e).1) XL.keeps (by rfl) (by rfl) (by rfl) (fun s e => recFacts_of (Bool.and_eq_true_iff.mp e).2) (by rfl) (by first | assumption | decide +kernel) (by decide +kernel) ⟨rfl, rfl, rfl, rfl, rfl, by decide +kernel⟩ ?hw ?hc
  case hw => w_witness2
  intro w s₀ s₁ mg mb G Y fa o pm cd doc dV kV ho hd hcd hD hmg hg args vals as hpre hlay hrd hwl hlo
  have KX := kIn_of Y
  clear ho hd hcd hD 
  refine Ground.open G ?_
  intro T B D TE TW
  wrow_args hpre hlay hrd hwl hlo
  rename_i ns _ _ _ _ _ _ _ l vs _ hL ra _ _ hI _ _ _
  have st : Stat s₁.heap mg mb := ⟨T.g, T.b, T.nolimit, T.nodigits, T.builtins⟩
  have hfa : fa = 160 := by
    have h1 : mg (Str.ofString "law") = some (.ref fa) := hmg
    rw [(glob_at KX T.g rfl rfl _).trans (show _ = some (Value.ref 160) from rfl)] at h1
    cases h1; rfl
  subst hfa
  obtain ⟨ol, hl1, hl2, n, hl3⟩ := hL
  refine law_fn KX st ns (by omega) callerA s₁ (fun b => s₁.heap.get? b) [.ref l] _ _ rfl rfl (by decide +kernel) (by decide +kernel) (fun _ _ e => e) (fun _ _ e => e) (.cons (.list hl1 hl2 hl3 (Reps.of_ints hI)) .nil) ?_
  intro v h' g' tk hk hg' hle hsame hr
  cases hr with
  | bool =>
  refine ⟨.inl ⟨_, .bool true, [], rfl, fun _ => rfl, ?_, ?_, ?_⟩, .of_keep hk, rfl, .of_eq hg⟩
  · exact .bool _
  · first | wrow_post | exact postW_of (by wrow_shape) (by wtm_val) (by decide)
  · exact fun _ => ⟨List.nodup_nil, fun _ h => by cases h⟩

